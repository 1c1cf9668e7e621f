import PyProof.Rows.All
import Wide.All
import OpenK.AllK
import Wide.FinOn
import PySem.Challenge.RW_nq0051_01
set_option Elab.async false

section
open PySem PySem.W PyProof.Rows
set_option maxRecDepth 100000
set_option maxHeartbeats 8000000
namespace Mine
open_top hd for PySem.Challenge.rw_nq0051_01
end Mine
end

section
open PySem PySem.W PyProof.Rows
set_option autoImplicit false
namespace Mine

/-! ghost heaps: g is the part of the heap that nobody changes -/
abbrev Kp (h h' : Heap) : Prop := ∀ b o, h.get? b = some o → h'.get? b = some o
theorem Kp.refl (h : Heap) : Kp h h := fun _ _ e => e
theorem Kp.trans {a b c : Heap} (x : Kp a b) (y : Kp b c) : Kp a c := fun _ _ e => y _ _ (x _ _ e)

def only (p : Addr → Bool) (h : Heap) : Heap := ⟨h.objs.mapIdx fun i o => if p i then o else { o with data := .freed }, h.life⟩
theorem only_get (p : Addr → Bool) (h : Heap) (a : Addr) : (only p h).get? a = if p a then h.get? a else none := by
  obtain ⟨objs, l⟩ := h
  simp only [only, Heap.get?, Array.getElem?_mapIdx]
  cases hx : objs[a]? with
  | none => simp
  | some x =>
    cases hp : p a with
    | true => simp
    | false => simp
theorem only_kp (p : Addr → Bool) (h : Heap) : Kp (only p h) h := fun b o e => by
  rw [only_get] at e
  split at e
  · exact e
  · cases e

structure Grow (g : Heap) (s : Shared) (g' : Heap) (s' : Shared) : Prop where
  same : ∃ h tk, s' = { s with heap := h, toks := tk }
  kp : Kp s.heap s'.heap
  gg : Kp g g'
  sub : Kp g' s'.heap
  apart : ∀ a, s.heap.get? a ≠ none → g.get? a = none → g'.get? a = none

theorem Grow.refl {g : Heap} {s : Shared} (k : Kp g s.heap) : Grow g s g s := ⟨⟨_, _, rfl⟩, Kp.refl _, Kp.refl _, k, fun _ _ e => e⟩
theorem Grow.tok {g : Heap} {s : Shared} (k : Kp g s.heap) (t : Nat) : Grow g s g { s with toks := t } := ⟨⟨_, _, rfl⟩, Kp.refl _, Kp.refl _, k, fun _ _ e => e⟩
theorem Grow.trans {g g' g'' : Heap} {s s' s'' : Shared} (x : Grow g s g' s') (y : Grow g' s' g'' s'') : Grow g s g'' s'' where
  same := by obtain ⟨h, t, rfl⟩ := x.same; obtain ⟨h', t', rfl⟩ := y.same; exact ⟨h', t', rfl⟩
  kp := x.kp.trans y.kp
  gg := x.gg.trans y.gg
  sub := y.sub
  apart := fun a h e => y.apart a (by
    cases q : s.heap.get? a with
    | none => exact absurd q h
    | some o => rw [x.kp _ _ q]; exact fun z => by cases z) (x.apart a h e)
theorem Grow.toKeeps {g g' : Heap} {s s' : Shared} (x : Grow g s g' s') : Keeps s s' := by
  obtain ⟨h, t, rfl⟩ := x.same
  exact ⟨h, t, rfl, x.kp⟩

/-- whatever keeps all grows: all that is new is told -/
theorem grow_of {g : Heap} {s s' : Shared} (k : Kp g s.heap) (x : Keeps s s') :
    ∃ g', Grow g s g' s' ∧ ∀ a o, s.heap.get? a = none → s'.heap.get? a = some o → g'.get? a = some o := by
  obtain ⟨h', tk, rfl, hk⟩ := x
  refine ⟨only (fun a => (g.get? a).isSome || (s.heap.get? a).isNone) h', ⟨⟨_, _, rfl⟩, hk, fun a o e => ?_, only_kp _ _, fun a e1 e2 => ?_⟩, fun a o e1 e2 => ?_⟩
  · rw [only_get, e]; exact hk _ _ (k _ _ e)
  · rw [only_get, e2]
    cases q : s.heap.get? a with
    | none => exact absurd q e1
    | some o => rfl
  · rw [only_get, e1]; simpa using e2

/-- one new object -/
theorem grow_push {g : Heap} {s : Shared} (k : Kp g s.heap) (o : Obj) (hf : o.isFreed = false := by rfl) :
    ∃ g', Grow g s g' { s with heap := s.heap.push o } ∧ g'.get? s.heap.objs.size = some o := by
  obtain ⟨g', G, n⟩ := grow_of (s' := { s with heap := s.heap.push o }) k ⟨_, _, rfl, fun b o' e => Heap.get?_push_of_some o e⟩
  refine ⟨g', G, n _ _ ?_ (Heap.get?_push_size _ hf)⟩
  cases q : s.heap.get? s.heap.objs.size with
  | none => rfl
  | some o => exact absurd (Heap.lt_size q) (Nat.lt_irrefl _)

/-- a frame: base (g₀, s₀); m: what its names hold (locals and cells alike); ro: cells that are another frame's; own: objects of this frame that it may change -/
structure FS (g₀ : Heap) (s₀ : Shared) (env : Env) (ro : List Str) (m : Str → Option Value) (own : List (Addr × Obj)) (g : Heap) (s : Shared) : Prop where
  grow : Grow g₀ s₀ g s
  ns : ∃ ml, s.heap.Ns env.locals ml ∧ ∀ x, env.kindOf x = some .local → ml x = m x
  locNew : s₀.heap.get? env.locals = none ∧ g.get? env.locals = none
  cell : ∀ n, env.kindOf n = some .cell → ∃ c, env.cells.lookup n = some c ∧ s.heap.IsCell c (m n)
  cellOut : ∀ n c, env.cells.lookup n = some c → g.get? c = none ∧ c ≠ env.locals ∧ s.heap.get? c ≠ none
  cellNew : ∀ n c, env.cells.lookup n = some c → n ∉ ro → s₀.heap.get? c = none
  cellInj : ∀ n n' c, env.cells.lookup n = some c → env.cells.lookup n' = some c → n = n'
  mine : ∀ p ∈ own, s.heap.get? p.1 = some p.2 ∧ s₀.heap.get? p.1 = none ∧ g.get? p.1 = none ∧ p.1 ≠ env.locals ∧ ∀ n c, env.cells.lookup n = some c → p.1 ≠ c
  ownNd : (own.map (·.1)).Nodup

section
variable {g₀ g g' : Heap} {s₀ s s' : Shared} {env : Env} {ro : List Str} {m : Str → Option Value} {own : List (Addr × Obj)}
theorem FS.kp (F : FS g₀ s₀ env ro m own g s) : Kp g s.heap := F.grow.sub
theorem FS.loc_some (F : FS g₀ s₀ env ro m own g s) : s.heap.get? env.locals ≠ none := by
  obtain ⟨ml, ⟨o, es, ep, ho, _⟩, _⟩ := F.ns
  rw [ho]; exact fun z => by cases z

/-- what keeps all, keeps the frame -/
theorem FS.on (F : FS g₀ s₀ env ro m own g s) (G : Grow g s g' s') : FS g₀ s₀ env ro m own g' s' where
  grow := F.grow.trans G
  ns := let ⟨ml, h, e⟩ := F.ns; ⟨ml, h.keeps G.kp, e⟩
  locNew := ⟨F.locNew.1, G.apart _ F.loc_some F.locNew.2⟩
  cell := fun n h => let ⟨c, e, hc⟩ := F.cell n h; ⟨c, e, hc.keeps G.kp⟩
  cellOut := fun n c e => by
    obtain ⟨a, b, d⟩ := F.cellOut n c e
    refine ⟨G.apart _ d a, b, ?_⟩
    cases q : s.heap.get? c with
    | none => exact absurd q d
    | some o => rw [G.kp _ _ q]; exact fun z => by cases z
  cellNew := F.cellNew
  cellInj := F.cellInj
  mine := fun p hp => let ⟨a, b, c, d, e⟩ := F.mine p hp; ⟨G.kp _ _ a, b, G.apart _ (by rw [a]; exact fun z => by cases z) c, d, e⟩
  ownNd := F.ownNd

theorem FS.ownGet {a : Addr} {o : Obj} (F : FS g₀ s₀ env ro m own g s) (h : (a, o) ∈ own) : s.heap.get? a = some o := (F.mine _ h).1

/-- fewer own objects, in another order -/
theorem FS.less {own' : List (Addr × Obj)} (F : FS g₀ s₀ env ro m own g s) (h : ∀ p ∈ own', p ∈ own) (hn : (own'.map (·.1)).Nodup) : FS g₀ s₀ env ro m own' g s :=
  { F with mine := fun p hp => F.mine p (h p hp), ownNd := hn }
theorem FS.tail {p : Addr × Obj} (F : FS g₀ s₀ env ro m (p :: own) g s) : FS g₀ s₀ env ro m own g s :=
  F.less (fun _ h => .tail _ h) (by have := F.ownNd; rw [List.map_cons, List.nodup_cons] at this; exact this.2)

/-- only one address changes, in the state s' -/
theorem FS.upd {a : Addr} {o o' : Obj} {tk : Nat} {h' : Heap} (F : FS g₀ s₀ env ro m ((a, o) :: own) g s) (hs : Heap.ExtBut a s.heap h') (ho : h'.get? a = some o') :
    FS g₀ s₀ env ro m ((a, o') :: own) g { s with heap := h', toks := tk } := by
  obtain ⟨a1, a2, a3, a4, a5⟩ := F.mine _ (.head _)
  have nd := F.ownNd
  rw [List.map_cons, List.nodup_cons] at nd
  have keep : ∀ b o, b ≠ a → s.heap.get? b = some o → h'.get? b = some o := fun b o n e => hs b o n e
  refine ⟨⟨?_, fun b ob e => ?_, F.grow.gg, fun b ob e => ?_, F.grow.apart⟩, ?_, F.locNew, fun n hn => ?_, fun n c e => ?_, F.cellNew, F.cellInj, fun p hp => ?_, ?_⟩
  · obtain ⟨h, t, rfl⟩ := F.grow.same; exact ⟨_, _, rfl⟩
  · exact keep b ob (fun q => by rw [q, a2] at e; cases e) (F.grow.kp _ _ e)
  · exact keep b ob (fun q => by rw [q, a3] at e; cases e) (F.kp _ _ e)
  · obtain ⟨ml, hn, e⟩ := F.ns
    exact ⟨ml, hn.extBut hs (Ne.symm a4), e⟩
  · obtain ⟨c, e, oc, hoc, hd⟩ := F.cell n hn
    exact ⟨c, e, oc, keep _ _ (Ne.symm (a5 n c e)) hoc, hd⟩
  · obtain ⟨b1, b2, b3⟩ := F.cellOut n c e
    refine ⟨b1, b2, ?_⟩
    cases q : s.heap.get? c with
    | none => exact absurd q b3
    | some oc =>
      show h'.get? c ≠ none
      rw [keep _ _ (Ne.symm (a5 n c e)) q]; exact fun z => by cases z
  · rcases List.mem_cons.mp hp with rfl | hp
    · exact ⟨ho, a2, a3, a4, a5⟩
    · obtain ⟨b1, b2, b3, b4, b5⟩ := F.mine p (.tail _ hp)
      exact ⟨keep _ _ (fun q => nd.1 (List.mem_map.mpr ⟨p, hp, q⟩)) b1, b2, b3, b4, b5⟩
  · rw [List.map_cons, List.nodup_cons]; exact nd

/-- a new object becomes the frame's own -/
theorem FS.push (F : FS g₀ s₀ env ro m own g s) (o : Obj) (hf : o.isFreed = false := by rfl) :
    FS g₀ s₀ env ro m ((s.heap.objs.size, o) :: own) g { s with heap := s.heap.push o } := by
  have K : Kp s.heap (s.heap.push o) := fun b o' e => Heap.get?_push_of_some o e
  have none_of : ∀ h : Heap, Kp h s.heap → h.get? s.heap.objs.size = none := fun h k => by
    cases q : h.get? s.heap.objs.size with
    | none => rfl
    | some o => exact absurd (Heap.lt_size (k _ _ q)) (Nat.lt_irrefl _)
  have G : Grow g s g { s with heap := s.heap.push o } := ⟨⟨_, _, rfl⟩, K, Kp.refl _, F.kp.trans K, fun _ _ e => e⟩
  have F' := F.on G
  refine { F' with mine := fun p hp => ?_, ownNd := ?_ }
  · rcases List.mem_cons.mp hp with rfl | hp
    · refine ⟨Heap.get?_push_size _ hf, none_of _ F.grow.kp, none_of _ F.kp, fun q => ?_, fun n c e q => ?_⟩
      · have := F.loc_some
        rw [← (show s.heap.objs.size = env.locals from q)] at this
        exact this (none_of _ (Kp.refl _))
      · have := (F.cellOut n c e).2.2
        rw [← (show s.heap.objs.size = c from q)] at this
        exact this (none_of _ (Kp.refl _))
    · exact F'.mine p hp
  · rw [List.map_cons, List.nodup_cons]
    refine ⟨fun q => ?_, F.ownNd⟩
    obtain ⟨p, hp, e⟩ := List.mem_map.mp q
    have := (F.mine p hp).1
    rw [e, none_of _ (Kp.refl _)] at this
    cases this

/-- an own object is changed no more -/
theorem FS.freeze {a : Addr} {o : Obj} (F : FS g₀ s₀ env ro m ((a, o) :: own) g s) :
    ∃ g', FS g₀ s₀ env ro m own g' s ∧ Kp g g' ∧ g'.get? a = some o := by
  obtain ⟨a1, a2, a3, a4, a5⟩ := F.mine _ (.head _)
  have nd := F.ownNd
  rw [List.map_cons, List.nodup_cons] at nd
  refine ⟨only (fun b => (g.get? b).isSome || b == a) s.heap, ?_, fun b ob e => ?_, ?_⟩
  · have out : ∀ b, g.get? b = none → b ≠ a → (only (fun b => (g.get? b).isSome || b == a) s.heap).get? b = none := fun b e n => by
      rw [only_get, e]; simp [n]
    refine ⟨⟨F.grow.same, F.grow.kp, fun b ob e => ?_, only_kp _ _, fun b e1 e2 => ?_⟩, F.ns, ⟨F.locNew.1, out _ F.locNew.2 (Ne.symm a4)⟩, F.cell,
      fun n c e => ⟨out _ (F.cellOut n c e).1 (Ne.symm (a5 n c e)), (F.cellOut n c e).2⟩, F.cellNew, F.cellInj, fun p hp => ?_, nd.2⟩
    · rw [only_get, F.grow.gg _ _ e]; exact F.kp _ _ (F.grow.gg _ _ e)
    · exact out _ (F.grow.apart _ e1 e2) fun q => by rw [q] at e1; exact e1 a2
    · obtain ⟨b1, b2, b3, b4, b5⟩ := F.mine p (.tail _ hp)
      exact ⟨b1, b2, out _ b3 (fun q => nd.1 (List.mem_map.mpr ⟨p, hp, q⟩)), b4, b5⟩
  · rw [only_get, e]; exact F.kp _ _ e
  · rw [only_get]; simp; exact a1
end

section
variable {M : Model} {A : Around} {E : Value → Shared → Prop} {g₀ g : Heap} {s₀ s : Shared} {env : Env} {ro : List Str} {m : Str → Option Value} {own : List (Addr × Obj)}

theorem ldF {x : Str} {v : Value} {Q : Value → Shared → Prop} (F : FS g₀ s₀ env ro m own g s) (hk : env.scope.kind = .function) (hx : env.kindOf x = some .local ∨ env.kindOf x = some .cell)
    (hv : m x = some v) (h : Q v s) : wpAny M A (loadName env x) Q E s := by
  rcases hx with hx | hx
  · obtain ⟨ml, hn, e⟩ := F.ns
    exact wpAny_loadName_local hk hx hn ((e x hx).trans hv) h
  · obtain ⟨c, e, hc⟩ := F.cell x hx
    exact wpAny_loadName_cell hk hx e (hv ▸ hc) h

theorem nmF {x : Str} {p : Pos} {v : Value} {Q : Value → Shared → Prop} (F : FS g₀ s₀ env ro m own g s) (hk : env.scope.kind = .function) (hx : env.kindOf x = some .local ∨ env.kindOf x = some .cell)
    (hv : m x = some v) (h : Q v s) (hd : (x == ("__debug__" : Str)) = false := by decide) : wpAny M A (eval (.Name x p) env) Q E s := wpAny_Name (ldF F hk hx hv h) hd

def put (m : Str → Option Value) (x : Str) (v : Value) : Str → Option Value := fun y => if y = x then some v else m y

theorem stF {x : Str} {v : Value} {Q : Unit → Shared → Prop} (F : FS g₀ s₀ env ro m own g s) (hk : env.scope.kind = .function) (hx : env.kindOf x = some .local ∨ (env.kindOf x = some .cell ∧ x ∉ ro))
    (h : ∀ s', FS g₀ s₀ env ro (put m x v) own g s' → Q () s') : wpAny M A (storeName env x v) Q E s := by
  rcases hx with hx | ⟨hx, hr⟩
  · obtain ⟨ml, hn, e⟩ := F.ns
    refine wpAny_storeName_local hx hn (fun h' hn' hs => h _ ?_) (by rw [hk]; rfl)
    have keep : ∀ b o, b ≠ env.locals → s.heap.get? b = some o → h'.get? b = some o := fun b o n q => hs.extBut b o n q
    refine ⟨⟨?_, fun b ob q => ?_, F.grow.gg, fun b ob q => ?_, F.grow.apart⟩, ⟨_, hn', fun y hy => ?_⟩, F.locNew, fun n hn2 => ?_, fun n c q => ?_, F.cellNew, F.cellInj, fun p hp => ?_, F.ownNd⟩
    · obtain ⟨h, t, rfl⟩ := F.grow.same; exact ⟨_, _, rfl⟩
    · exact keep b ob (fun z => by rw [z, F.locNew.1] at q; cases q) (F.grow.kp _ _ q)
    · exact keep b ob (fun z => by rw [z, F.locNew.2] at q; cases q) (F.kp _ _ q)
    · show (if y = x then some v else ml y) = put m x v y
      unfold put; split
      · rfl
      · exact e y hy
    · obtain ⟨c, q, oc, hoc, hd⟩ := F.cell n hn2
      refine ⟨c, q, oc, keep _ _ (F.cellOut n c q).2.1 hoc, ?_⟩
      have : n ≠ x := fun z => by rw [z, hx] at hn2; cases hn2
      unfold put; rw [if_neg this]; exact hd
    · obtain ⟨b1, b2, b3⟩ := F.cellOut n c q
      refine ⟨b1, b2, ?_⟩
      cases z : s.heap.get? c with
      | none => exact absurd z b3
      | some oc => show h'.get? c ≠ none; rw [keep _ _ b2 z]; exact fun z => by cases z
    · obtain ⟨b1, b2, b3, b4, b5⟩ := F.mine p hp
      exact ⟨keep _ _ b4 b1, b2, b3, b4, b5⟩
  · obtain ⟨c, e, hc⟩ := F.cell x hx
    have hnew := F.cellNew x c e hr
    obtain ⟨c1, c2, c3⟩ := F.cellOut x c e
    refine wpAny_storeName_cell hk hx e hc fun h' hc' hs => h _ ?_
    have keep : ∀ b o, b ≠ c → s.heap.get? b = some o → h'.get? b = some o := fun b o n q => hs.extBut b o n q
    refine ⟨⟨?_, fun b ob q => ?_, F.grow.gg, fun b ob q => ?_, F.grow.apart⟩, ?_, F.locNew, fun n hn2 => ?_, fun n c' q => ?_, F.cellNew, F.cellInj, fun p hp => ?_, F.ownNd⟩
    · obtain ⟨h, t, rfl⟩ := F.grow.same; exact ⟨_, _, rfl⟩
    · exact keep b ob (fun z => by rw [z, hnew] at q; cases q) (F.grow.kp _ _ q)
    · exact keep b ob (fun z => by rw [z, c1] at q; cases q) (F.kp _ _ q)
    · obtain ⟨ml, hn, e2⟩ := F.ns
      refine ⟨ml, hn.sameBut hs (Ne.symm c2), fun y hy => ?_⟩
      have : y ≠ x := fun z => by rw [z, hx] at hy; cases hy
      unfold put; rw [if_neg this]; exact e2 y hy
    · by_cases z : n = x
      · subst z
        refine ⟨c, e, ?_⟩
        unfold put; rw [if_pos rfl]; exact hc'
      · obtain ⟨c', q, oc, hoc, hd⟩ := F.cell n hn2
        refine ⟨c', q, oc, keep _ _ (fun w => z (F.cellInj n x c' q (w ▸ e))) hoc, ?_⟩
        unfold put; rw [if_neg z]; exact hd
    · obtain ⟨b1, b2, b3⟩ := F.cellOut n c' q
      refine ⟨b1, b2, ?_⟩
      show h'.get? c' ≠ none
      by_cases w : c' = c
      · subst w
        obtain ⟨oc, hoc, _⟩ := hc'
        rw [hoc]; exact fun z => by cases z
      · cases z : s.heap.get? c' with
        | none => exact absurd z b3
        | some oc => rw [keep _ _ w z]; exact fun z => by cases z
    · obtain ⟨b1, b2, b3, b4, b5⟩ := F.mine p hp
      exact ⟨keep _ _ (b5 x c e) b1, b2, b3, b4, b5⟩
end
end Mine
end

section
open PySem PySem.W PyProof.Rows
set_option autoImplicit false
set_option maxRecDepth 100000
namespace Mine

def bindAll : List (Str × Value) → (Str → Option Value) → Str → Option Value
  | [], m => m
  | (n, v) :: r, m => bindAll r (put m n v)

theorem bindL_all {kindOf : Str → Option NameKind} {x : Str} (hx : kindOf x = some .local) : ∀ (binds : List (Str × Value)) (m m' : Str → Option Value), m x = m' x → bindL kindOf binds m x = bindAll binds m' x
  | [], _, _, e => e
  | (n, v) :: r, m, m', e => by
    unfold bindL bindAll
    refine bindL_all hx r _ _ ?_
    by_cases hn : x = n
    · subst hn; rw [if_pos hx]; simp [put]
    · by_cases hl : kindOf n = some .local
      · rw [if_pos hl]; simp [put, hn, e]
      · rw [if_neg hl]; simp [put, hn, e]
theorem bindC_all {kindOf : Str → Option NameKind} {x : Str} (hx : kindOf x = some .cell) : ∀ (binds : List (Str × Value)) (m m' : Str → Option Value), m x = m' x → bindC kindOf binds m x = bindAll binds m' x
  | [], _, _, e => e
  | (n, v) :: r, m, m', e => by
    unfold bindC bindAll
    refine bindC_all hx r _ _ ?_
    by_cases hn : x = n
    · subst hn; rw [if_neg (by rw [hx]; decide)]; simp [put]
    · by_cases hl : kindOf n = some .local
      · rw [if_pos hl]; simp [put, hn, e]
      · rw [if_neg hl]; simp [put, hn, e]

theorem lookup_of_isSome {α : Type} {l : List (Str × α)} {n : Str} (h : (l.lookup n).isSome = true) : ∃ c, l.lookup n = some c := Option.isSome_iff_exists.mp h

/-- the state without some objects -/
def hideS (lent : List (Addr × Obj)) (s : Shared) : Shared := { s with heap := only (fun a => !(lent.map (·.1)).contains a) s.heap }
theorem hideS_get (lent : List (Addr × Obj)) (s : Shared) (a : Addr) : (hideS lent s).heap.get? a = if (lent.map (·.1)).contains a then none else s.heap.get? a := by
  unfold hideS; rw [only_get]
  cases (lent.map (·.1)).contains a <;> rfl
theorem hideS_kp (lent : List (Addr × Obj)) (s : Shared) : Kp (hideS lent s).heap s.heap := only_kp _ _
theorem hideS_mem {lent : List (Addr × Obj)} {s : Shared} {p : Addr × Obj} (h : p ∈ lent) : (hideS lent s).heap.get? p.1 = none := by
  rw [hideS_get, if_pos (List.contains_iff_mem.mpr (List.mem_map_of_mem h))]
theorem hideS_not {lent : List (Addr × Obj)} {s : Shared} {a : Addr} {o : Obj} (h : a ∉ lent.map (·.1)) (e : s.heap.get? a = some o) : (hideS lent s).heap.get? a = some o := by
  rw [hideS_get, if_neg (fun q => h (List.contains_iff_mem.mp q))]; exact e

/-- entering a frame; some objects are lent to it -/
theorem fs_of {g : Heap} {s s₁ : Shared} {env : Env} {binds : List (Str × Value)} {lent : List (Addr × Obj)} (k : Kp g s.heap) (hL : env.locals = s.heap.objs.size)
    (hl : ∀ p ∈ lent, s.heap.get? p.1 = some p.2 ∧ g.get? p.1 = none) (hnd : (lent.map (·.1)).Nodup)
    (hcells : ∀ n, env.kindOf n = some .cell → (env.cells.lookup n).isSome = true)
    (x : InCallC s env.locals (bindL env.kindOf binds fun _ => none) env.cells (bindC env.kindOf binds fun _ => none) s₁) :
    FS g (hideS lent s) env [] (bindAll binds fun _ => none) lent g s₁ := by
  have none_of : ∀ a, s.heap.objs.size ≤ a → s.heap.get? a = none := fun a h => by
    cases q : s.heap.get? a with
    | none => rfl
    | some o => exact absurd (Heap.lt_size q) (Nat.not_lt.mpr h)
  have hnone : ∀ a, s.heap.objs.size ≤ a → (hideS lent s).heap.get? a = none := fun a h => by
    cases q : (hideS lent s).heap.get? a with
    | none => rfl
    | some o => have := none_of a h; rw [hideS_kp _ _ _ _ q] at this; cases this
  have gnone : ∀ a, s.heap.objs.size ≤ a → g.get? a = none := fun a h => by
    cases q : g.get? a with
    | none => rfl
    | some o => have := none_of a h; rw [k _ _ q] at this; cases this
  have hc : ∀ n c, env.cells.lookup n = some c → env.locals < c := fun n c e => x.above n c (mem_of_lookup e)
  refine ⟨⟨?_, (hideS_kp _ _).trans x.toInCall.keep, Kp.refl _, k.trans x.toInCall.keep, fun _ _ e => e⟩, ⟨_, x.toInCall.ns, fun y hy => bindL_all hy _ _ _ rfl⟩, ⟨hnone _ (Nat.le_of_eq hL.symm), gnone _ (Nat.le_of_eq hL.symm)⟩, fun n hn => ?_, fun n c e => ?_, fun n c e _ => ?_, fun n n' c e e' => ?_, fun p hp => ?_, hnd⟩
  · obtain ⟨h, t, e⟩ := x.toInCall.same; exact ⟨h, t, e⟩
  · obtain ⟨c, e⟩ := lookup_of_isSome (hcells n hn)
    refine ⟨c, e, ?_⟩
    rw [← bindC_all hn binds (fun _ => none) (fun _ => none) rfl]
    exact x.cell n c e
  · have := hc n c e
    refine ⟨gnone _ (Nat.le_of_lt (hL ▸ this)), Nat.ne_of_gt this, ?_⟩
    obtain ⟨o, ho, _⟩ := x.cell n c e
    rw [ho]; exact fun z => by cases z
  · have := hc n c e
    exact hnone _ (Nat.le_of_lt (hL ▸ this))
  · exact name_of_addr x.apart (mem_of_lookup e) (mem_of_lookup e')
  · have lt := Heap.lt_size (hl p hp).1
    refine ⟨x.toInCall.keep _ _ (hl p hp).1, hideS_mem hp, (hl p hp).2, fun q => ?_, fun n c e q => ?_⟩
    · rw [q, hL] at lt; exact Nat.lt_irrefl _ lt
    · have := hc n c e
      rw [← q, hL] at this; exact Nat.lt_asymm lt this

/-- what a frame leaves behind: lent went in, own comes back -/
structure Ret (g : Heap) (s : Shared) (lent : List (Addr × Obj)) (own : List (Addr × Obj)) (g' : Heap) (s' : Shared) : Prop where
  grow : Grow g (hideS lent s) g' s'
  mine : ∀ p ∈ own, s'.heap.get? p.1 = some p.2 ∧ (hideS lent s).heap.get? p.1 = none ∧ g'.get? p.1 = none
  nd : (own.map (·.1)).Nodup
theorem FS.ret {g g' : Heap} {s s' : Shared} {env : Env} {ro : List Str} {m : Str → Option Value} {own lent : List (Addr × Obj)} (F : FS g (hideS lent s) env ro m own g' s') : Ret g s lent own g' s' :=
  ⟨F.grow, fun p hp => let ⟨a, b, c, _⟩ := F.mine p hp; ⟨a, b, c⟩, F.ownNd⟩

/-- back from a frame to which objects were lent -/
theorem FS.back {g₀ g g' : Heap} {s₀ s s' : Shared} {env : Env} {ro : List Str} {m : Str → Option Value} {own lent lent' : List (Addr × Obj)} (F : FS g₀ s₀ env ro m (lent ++ own) g s) (R : Ret g s lent lent' g' s') : FS g₀ s₀ env ro m (lent' ++ own) g' s' := by
  have G := R.grow
  have keep : ∀ a o, a ∉ lent.map (·.1) → s.heap.get? a = some o → s'.heap.get? a = some o := fun a o n e => G.kp _ _ (hideS_not n e)
  have nd := F.ownNd
  rw [List.map_append, List.nodup_append] at nd
  have lentMine : ∀ a ∈ lent.map (·.1), s₀.heap.get? a = none ∧ g.get? a = none ∧ a ≠ env.locals ∧ ∀ n c, env.cells.lookup n = some c → a ≠ c := fun a ha => by
    obtain ⟨p, hp, rfl⟩ := List.mem_map.mp ha
    exact (F.mine p (List.mem_append_left _ hp)).2
  have hloc : env.locals ∉ lent.map (·.1) := fun q => (lentMine _ q).2.2.1 rfl
  have hcel : ∀ n c, env.cells.lookup n = some c → c ∉ lent.map (·.1) := fun n c e q => (lentMine _ q).2.2.2 n c e rfl
  have apart : ∀ a, a ∉ lent.map (·.1) → s.heap.get? a ≠ none → g.get? a = none → g'.get? a = none := fun a n h e => G.apart a (by
    cases q : s.heap.get? a with
    | none => exact absurd q h
    | some o => rw [hideS_not n q]; exact fun z => by cases z) e
  have some_ne : ∀ {a o}, s.heap.get? a = some o → s.heap.get? a ≠ none := fun e z => by rw [e] at z; cases z
  have two : ∀ p ∈ lent', p.1 ∈ lent.map (·.1) ∨ s.heap.get? p.1 = none := fun p hp => by
    have e := (R.mine p hp).2.1
    rw [hideS_get] at e
    split at e
    · rename_i q; exact .inl (List.contains_iff_mem.mp q)
    · exact .inr e
  have newMine : ∀ a, s.heap.get? a = none → s₀.heap.get? a = none ∧ a ≠ env.locals ∧ ∀ n c, env.cells.lookup n = some c → a ≠ c := fun a e => by
    refine ⟨?_, fun q => F.loc_some (q ▸ e), fun n c ec q => (F.cellOut n c ec).2.2 (q ▸ e)⟩
    cases q : s₀.heap.get? a with
    | none => rfl
    | some o => rw [F.grow.kp _ _ q] at e; cases e
  refine ⟨⟨?_, fun a o e => ?_, F.grow.gg.trans G.gg, G.sub, fun a h e => ?_⟩, ?_, ⟨F.locNew.1, apart _ hloc F.loc_some F.locNew.2⟩, fun n hn => ?_, fun n c e => ?_, F.cellNew, F.cellInj, fun p hp => ?_, ?_⟩
  · obtain ⟨h, t, rfl⟩ := F.grow.same; obtain ⟨h', t', rfl⟩ := G.same; exact ⟨h', t', rfl⟩
  · exact keep a o (fun q => by rw [(lentMine a q).1] at e; cases e) (F.grow.kp _ _ e)
  · have hn : a ∉ lent.map (·.1) := fun q => h (lentMine a q).1
    refine apart a hn ?_ (F.grow.apart a h e)
    cases q : s₀.heap.get? a with
    | none => exact absurd q h
    | some o => rw [F.grow.kp _ _ q]; exact fun z => by cases z
  · obtain ⟨ml, ⟨o, es, ep, ho, r⟩, e⟩ := F.ns
    exact ⟨ml, ⟨o, es, ep, keep _ _ hloc ho, r⟩, e⟩
  · obtain ⟨c, e, oc, hoc, hd⟩ := F.cell n hn
    exact ⟨c, e, oc, keep _ _ (hcel n c e) hoc, hd⟩
  · obtain ⟨a, b, d⟩ := F.cellOut n c e
    refine ⟨apart _ (hcel n c e) d a, b, ?_⟩
    cases q : s.heap.get? c with
    | none => exact absurd q d
    | some o => rw [keep _ _ (hcel n c e) q]; exact fun z => by cases z
  · rcases List.mem_append.mp hp with hp | hp
    · obtain ⟨a, _, b⟩ := R.mine p hp
      rcases two p hp with c | c
      · obtain ⟨d1, d2, d3, d4⟩ := lentMine _ c
        exact ⟨a, d1, b, d3, d4⟩
      · obtain ⟨d1, d3, d4⟩ := newMine _ c
        exact ⟨a, d1, b, d3, d4⟩
    · obtain ⟨a, b, c, d, e⟩ := F.mine p (List.mem_append_right _ hp)
      have hn : p.1 ∉ lent.map (·.1) := fun q => nd.2.2 _ q _ (List.mem_map_of_mem hp) rfl
      exact ⟨keep _ _ hn a, b, apart _ hn (some_ne a) c, d, e⟩
  · rw [List.map_append, List.nodup_append]
    refine ⟨R.nd, nd.2.1, fun a ha b hb q => ?_⟩
    obtain ⟨p, hp, rfl⟩ := List.mem_map.mp ha
    rcases two p hp with c | c
    · exact nd.2.2 _ c _ hb q
    · obtain ⟨p', hp', rfl⟩ := List.mem_map.mp hb
      have := (F.mine p' (List.mem_append_right _ hp')).1
      rw [← q, c] at this; cases this

/-- nothing lent, nothing brought: it grows -/
theorem Ret.toGrow {g g' : Heap} {s s' : Shared} {own : List (Addr × Obj)} (R : Ret g s [] own g' s') : Grow g s g' s' := by
  have e : ∀ a, (hideS [] s).heap.get? a = s.heap.get? a := fun a => by rw [hideS_get]; rfl
  refine ⟨R.grow.same, fun a o q => R.grow.kp _ _ (by rw [e]; exact q), R.grow.gg, R.grow.sub, fun a q => R.grow.apart a (by rw [e]; exact q)⟩

section
variable {prog : Program} {w : World} {A : Around} {g : Heap} {s : Shared}
theorem call_def {R : Result → Shared → Prop} {a : Addr} {o : Obj} {fd : FuncData} {body : List Stmt} {args : Args} {binds : List (Str × Value)} (lent : List (Addr × Obj))
    (k : Kp g s.heap) (hl : ∀ p ∈ lent, s.heap.get? p.1 = some p.2 ∧ g.get? p.1 = none) (hnd : (lent.map (·.1)).Nodup)
    (hroom : A.depth < recursionLimit) (ho : g.get? a = some o) (hdata : o.data = .func fd) (hlim : g.NoLimit) (hcd : g.CodeRec fd.code fd.qualname)
    (hbody : fd.body = .stmts body) (hbind : BindsTo s fd args binds) (hclo : fd.closure = [])
    (hkind : (binds.all fun y => fd.scope.names.lookup y.1 == some .local || fd.scope.names.lookup y.1 == some .cell) = true)
    (h : ∀ s₁, FS g (hideS lent s) (callEnvC fd s.heap.objs.size a) [] (bindAll binds fun _ => none) lent g s₁ →
      wpAny (model prog w) (A.deeper (callEnvC fd s.heap.objs.size a)) (execs body (callEnvC fd s.heap.objs.size a)) (fun f s' => R (.ok (.ret (match f with | .ret v => v | _ => .none))) s')
        (fun e s' => wpAny (model prog w) (A.deeper (callEnvC fd s.heap.objs.size a)) (leaving (callEnvC fd s.heap.objs.size a) e) (fun _ s'' => R (.error e) s'') (fun e' s'' => R (.error e') s'') s') s₁)
    (hco : fd.scope.isCoroutine = false := by rfl) (hgen : fd.scope.isGenerator = false := by rfl) (hk : fd.scope.kind = .function := by rfl) :
    codeAny (model prog w) A (.call (.ref a) args) R s := by
  refine codeAny_call_function hroom (k _ _ ho) hdata hco hgen hbody (hcd.keeps k) (hbind _ _ _ _ ?_)
  rw [hclo]
  refine wpAny_newFunctionEnv_cells hk (kindsX hkind _) fun env he s' x => ?_
  subst he
  refine ⟨(hlim.keeps k).keeps x.toInCall.keep, codeAny_func (h s' ?_)⟩
  exact fs_of k rfl hl hnd (fun n hn => cellsFrom_some _ _ _ (.inl hn)) x
end
end Mine
end

section
open PySem PySem.W PyProof.Rows
set_option autoImplicit false
set_option maxRecDepth 100000
namespace Mine

/-! the program's own objects -/
noncomputable abbrev KF (w : World) : Frag := hd.heap_39 w.params
structure Ld (w : World) (g : Heap) : Prop where
  X : (KF w).In g
  T : ∃ p loose mg mb, TopRead p loose mg mb g
theorem Ld.mono {w : World} {g g' : Heap} (L : Ld w g) (k : Kp g g') : Ld w g' := ⟨L.X.keeps k, let ⟨p, l, mg, mb, T⟩ := L.T; ⟨p, l, mg, mb, T.keeps k⟩⟩
theorem Ld.lim {w : World} {g : Heap} (L : Ld w g) : g.NoLimit := let ⟨_, _, _, _, T⟩ := L.T; T.nolimit

/-- room for n frames more -/
structure Rm (n : Nat) (A : Around) : Prop where
  hh : A.handled = none
  dp : A.depth + n < recursionLimit
  un : A.units + 20 * n < cLine
theorem Rm.less {n k : Nat} {A : Around} (R : Rm n A) (h : k ≤ n) : Rm k A := ⟨R.hh, by have := R.dp; omega, by have := R.un; omega⟩
theorem Rm.deeper {n : Nat} {A : Around} {env : Env} (R : Rm (n + 1) A) : Rm n (A.deeper env) := ⟨R.hh, by have := R.dp; show A.depth + 1 + n < _; omega, by have := R.un; show A.units + 3 + 20 * n < _; omega⟩
theorem Rm.room {n : Nat} {A : Around} (R : Rm n A) : A.depth < recursionLimit := by have := R.dp; omega
theorem Rm.units {n : Nat} {A : Around} (R : Rm (n + 1) A) : A.units < cLine := by have := R.un; omega
theorem Rm.in1 {n : Nat} {A : Around} (R : Rm (n + 1) A) : Rm n A.in1 := ⟨R.hh, by have := R.dp; show A.depth + n < _; omega, by have := R.un; show A.units + 1 + 20 * n < _; omega⟩

/-! lists -/
def LL (g : Heap) (a : Addr) (vs : List Value) : Prop := ∃ n, g.get? a = some { cls := .type "list", data := .seq vs.toArray n }
theorem LL.mono {g g' : Heap} {a : Addr} {vs : List Value} (h : LL g a vs) (k : Kp g g') : LL g' a vs := let ⟨n, e⟩ := h; ⟨n, k _ _ e⟩
theorem LL.isList {g : Heap} {a : Addr} {vs : List Value} (h : LL g a vs) : g.IsList a vs.toArray := let ⟨n, e⟩ := h; ⟨_, e, rfl, n, rfl⟩
theorem LL.inj {g : Heap} {a : Addr} {vs ws : List Value} (h : LL g a vs) (h' : LL g a ws) : vs = ws := by
  obtain ⟨n, e⟩ := h; obtain ⟨n', e'⟩ := h'
  rw [e] at e'
  have := congrArg (fun o : Option Obj => match o with | some ⟨_, _, .seq xs _, _⟩ => xs.toList | _ => []) e'
  simpa using this
abbrev lo (vs : List Value) (n : Nat) : Obj := { cls := .type "list", data := .seq vs.toArray n }

/-! the four agents -/
abbrev Ag := Fin 4
def nm : Ag → Str
  | 0 => Str.ofString "fig"
  | 1 => Str.ofString "Fig"
  | 2 => Str.ofString "*"
  | 3 => Str.ofString ""
theorem nm_eqb : ∀ i j : Ag, ((nm i).cps.toList == (nm j).cps.toList) = decide (i = j) := by decide +kernel
theorem nm_inj {i j : Ag} (h : nm i = nm j) : i = j := by
  have := nm_eqb i j
  rw [h] at this
  simpa using this.symm
theorem nm_eq (i j : Ag) : (nm i == nm j) = decide (i = j) := by
  by_cases h : i = j
  · subst h; simp
  · rw [decide_eq_false h]; exact beq_eq_false_iff_ne.mpr fun q => h (nm_inj q)
theorem map_nm : ∀ {xs ys : List Ag}, xs.map nm = ys.map nm → xs = ys
  | [], [], _ => rfl
  | [], _ :: _, h => by simp at h
  | _ :: _, [], h => by simp at h
  | x :: xs, y :: ys, h => by
    simp only [List.map_cons, List.cons.injEq] at h
    rw [nm_inj h.1, map_nm h.2]
abbrev sv (p : Ag × Tok) : Value := .str (nm p.1) p.2
/-- a list of agents -/
def LS (g : Heap) (a : Addr) (xs : List Ag) : Prop := ∃ ps : List (Ag × Tok), ps.map (·.1) = xs ∧ LL g a (ps.map sv)
theorem LS.mono {g g' : Heap} {a : Addr} {xs : List Ag} (h : LS g a xs) (k : Kp g g') : LS g' a xs := let ⟨ps, e, l⟩ := h; ⟨ps, e, l.mono k⟩
theorem LS.inj {g : Heap} {a : Addr} {xs ys : List Ag} (h : LS g a xs) (h' : LS g a ys) : xs = ys := by
  obtain ⟨ps, rfl, l⟩ := h; obtain ⟨qs, rfl, l'⟩ := h'
  have e := l.inj l'
  have : (ps.map sv).map (fun v => match v with | .str x _ => x | _ => nm 0) = (qs.map sv).map (fun v => match v with | .str x _ => x | _ => nm 0) := by rw [e]
  simp only [List.map_map] at this
  have key : ∀ l : List (Ag × Tok), l.map ((fun v : Value => match v with | .str x _ => x | _ => nm 0) ∘ sv) = (l.map (·.1)).map nm := fun l => by
    rw [List.map_map]; rfl
  rw [key, key] at this
  exact map_nm this

section
variable {M : Model} {A : Around} {E : Value → Shared → Prop} {g : Heap} {s : Shared}
theorem newList_G {vs : List Value} {Q : Value → Shared → Prop} (k : Kp g s.heap) (h : ∀ g' a s', Grow g s g' s' → LL g' a vs → Q (.ref a) s') (hsz : vs.length ≤ sizeLine := by size_fits) : wpAny M A (newList vs) Q E s := by
  obtain ⟨g', G, e⟩ := grow_push k { cls := .type "list", data := .seq vs.toArray }
  exact wpAny_newObj_type (h g' _ _ G ⟨0, e⟩) (by show vs.toArray.size ≤ sizeLine; rw [List.size_toArray]; exact hsz)
end

section
variable {prog : Program} {w : World} {A : Around} {E : Value → Shared → Prop} {g : Heap} {s : Shared} {env : Env}

theorem add_G {a b : Addr} {vs ws : List Value} {Q : Value → Shared → Prop} (k : Kp g s.heap) (ha : LL s.heap a vs) (hb : LL s.heap b ws) (h : ∀ g' c s', Grow g s g' s' → LL g' c (vs ++ ws) → Q (.ref c) s')
    (hsz : vs.length + ws.length ≤ sizeLine := by size_fits) : wpAny (model prog w) A (binaryOp .Add (.ref a) (.ref b)) Q E s := by
  obtain ⟨n, e⟩ := ha; obtain ⟨n', e'⟩ := hb
  obtain ⟨g', G, eg⟩ := grow_push k { cls := .type "list", data := .seq (vs.toArray ++ ws.toArray) }
  refine P.add_list e e' (h g' _ _ G ⟨0, ?_⟩) (by simpa using hsz)
  rw [eg]; simp

theorem item_G {value slice : Expr} {a : Addr} {vs : List Value} {i : Int} {t : Tok} {v : Value} {Q : Value → Shared → Prop} (ha : LL s.heap a vs) (h0 : 0 ≤ i) (hi : vs[i.toNat]? = some v) (h : Q v s)
    (hs : subscripted slice false (.ref a) (.int i t) = operate [.ref a, .int i t] (getItem (.ref a) (.int i t)) := by with_unfolding_all rfl) (hfit : i < 2 ^ 63 := by omega) :
    wpAny (model prog w) A (subscriptTail value slice (.ref a) (.int i t)) Q E s :=
  tail_any ha.isList.typeIs slot_list_getitem.lookup (wpAny_getItem_list ha.isList h0 hfit (by simpa using hi) h) hs

theorem slice_G {x : Str} {q : Pos} {lower upper : Option Expr} {p pos : Pos} {Q : Value → Shared → Prop}
    (h : wpAny (model prog w) A (eval (.Name x q) env) (fun o s₁ => wpAny (model prog w) A (evalPart lower env) (fun vl s₂ => wpAny (model prog w) A (evalPart upper env) (fun vu s₃ =>
      ∃ g l vs lo hi, o = .ref l ∧ Kp g s₃.heap ∧ LL s₃.heap l vs ∧ vs.length ≤ sizeLine ∧ IsPart vl lo ∧ IsPart vu hi ∧
        ∀ g' c s', Grow g s₃ g' s' → LL g' c (slicePick vs.toArray lo hi none).toList → Q (.ref c) s') E s₂) E s₁) E s) :
    wpAny (model prog w) A (eval (.Subscript (.Name x q) (.Slice lower upper none p) pos) env) Q E s := by
  refine wpAny_Subscript_list_slice (wpAny_mono h (fun o s₁ h₁ => wpAny_mono h₁ (fun vl s₂ h₂ => wpAny_mono h₂ (fun vu s₃ h₃ => ?_) fun _ _ e => e) fun _ _ e => e) fun _ _ e => e) (fun _ _ => rfl)
  obtain ⟨g, l, vs, lo, hi, rfl, k, hl, hsz, pl, pu, hQ⟩ := h₃
  refine ⟨l, _, lo, hi, rfl, hl.isList, by simpa using hsz, pl, pu, ?_⟩
  obtain ⟨g', G, nw⟩ := grow_of (s' := { s₃ with heap := (s₃.heap.push { cls := .type "slice", data := .fields #[vl, vu, .none] }).push { cls := .type "list", data := .seq (slicePick vs.toArray lo hi none) } }) k ⟨_, _, rfl, fun b o e => Heap.get?_push_of_some _ (Heap.get?_push_of_some _ e)⟩
  refine hQ g' _ _ G ⟨0, nw _ _ ?_ ?_⟩
  · cases q : s₃.heap.get? (s₃.heap.objs.size + 1) with
    | none => rfl
    | some o => exact absurd (Heap.lt_size q) (Nat.not_lt.mpr (Nat.le_succ _))
  · have e1 := Heap.get?_push_size (s₃.heap.push { cls := .type "slice", data := .fields #[vl, vu, .none] }) (o := { cls := .type "list", data := .seq (slicePick vs.toArray lo hi none) }) rfl
    rw [Heap.size_push] at e1
    simpa using e1

theorem truthy_G {a : Addr} {vs : List Value} {Q : Bool → Shared → Prop} (ha : LL s.heap a vs) (h : ∀ t, Q (!vs.isEmpty) { s with toks := t }) (hsz : vs.length ≤ sizeLine := by size_fits) :
    wpAny (model prog w) A (truthy (.ref a)) Q E s := by
  rw [sizeLine_eq] at hsz
  refine wpAny_truthy_list ha.isList (by rw [List.size_toArray]; omega) ?_
  rw [show vs.toArray.isEmpty = vs.isEmpty by cases vs <;> rfl]
  exact h _

/-- an agent in a list of agents -/
def isAg (x : Ag) : Value → Bool
  | .str z _ => z.cps.toList == (nm x).cps.toList
  | _ => false
theorem any_isAg (x : Ag) (ps : List (Ag × Tok)) : (ps.map sv).toArray.any (isAg x) = (ps.map (·.1)).contains x := by
  rw [List.any_toArray, List.any_map]
  induction ps with
  | nil => rfl
  | cons p r ih =>
    rw [List.any_cons, List.map_cons, List.contains_cons, ih]
    congr 1
    show ((nm p.1).cps.toList == (nm x).cps.toList) = (x == p.1)
    rw [nm_eqb]
    by_cases e : p.1 = x
    · rw [decide_eq_true e, e]; exact (beq_self_eq_true x).symm
    · rw [decide_eq_false e]; exact (beq_eq_false_iff_ne.mpr fun q => e q.symm).symm
theorem in_eqs (x : Ag) (t : Tok) (ps : List (Ag × Tok)) : ∀ y, y ∈ (ps.map sv).toArray → MeetsSeq.EqGives y (.str (nm x) t) (isAg x y) := fun y hy => by
  simp only [List.mem_toArray, List.mem_map] at hy
  obtain ⟨p, _, rfl⟩ := hy
  exact SeqRoads2.EqGives.str _ _ _ _
theorem in_G {a : Addr} {ps : List (Ag × Tok)} {x : Ag} {t : Tok} {Q : Value → Shared → Prop} (ha : LL s.heap a (ps.map sv)) (h : Q (.bool ((ps.map (·.1)).contains x)) s) :
    wpAny (model prog w) A (compareOp .In (.str (nm x) t) (.ref a)) Q E s :=
  SeqInW.in_listW (isAg x) (in_eqs x t ps) ha.isList (by rw [any_isAg]; exact h)
theorem notIn_G {a : Addr} {ps : List (Ag × Tok)} {x : Ag} {t : Tok} {Q : Value → Shared → Prop} (ha : LL s.heap a (ps.map sv)) (h : Q (.bool (!(ps.map (·.1)).contains x)) s) :
    wpAny (model prog w) A (compareOp .NotIn (.str (nm x) t) (.ref a)) Q E s :=
  SeqInW.notIn_listW (isAg x) (in_eqs x t ps) ha.isList (by rw [any_isAg]; exact h)

/-! lists read as data -/
def agD (xs : List Ag) : PyData := .list (xs.map fun x => .str (nm x))
theorem reads_all (h : Heap) : ∀ ps : List (Ag × Tok), ReadsAll h (ps.map sv) ((ps.map (·.1)).map fun x => .str (nm x)) []
  | [] => .nil
  | p :: r => .cons (.str _ _) (reads_all h r)
theorem LS.reads {g : Heap} {a : Addr} {xs : List Ag} (h : LS g a xs) : Reads g (.ref a) (agD xs) [a] := by
  obtain ⟨ps, rfl, n, e⟩ := h
  exact .list e rfl rfl (by simpa using reads_all g ps)
end
end Mine
end

section
open PySem PySem.W PyProof.Rows
set_option autoImplicit false
set_option maxRecDepth 100000
set_option linter.unusedVariables false
namespace Mine

section
variable {M : Model} {A : Around} {E : Value → Shared → Prop} {w : World} {g₀ g : Heap} {s₀ s : Shared} {env : Env} {ro : List Str} {m : Str → Option Value} {own : List (Addr × Obj)}
theorem glF {x : Str} {p : Pos} {v : Value} {Q : Value → Shared → Prop} (L : Ld w s.heap) (hg : env.globals = mainGlobals) (hk : env.scope.kind = .function) (hx : env.kindOf x = some .globalImplicit)
    (e : nsIn (KF w) mainGlobals x = some (some v)) (h : Q v s) (hd : (x == ("__debug__" : Str)) = false := by decide) : wpAny M A (eval (.Name x p) env) Q E s := by
  obtain ⟨_, _, mg, mb, T⟩ := L.T
  exact Calls.Name_function_global hk hx (Calls.loadGlobal_global (env := env) (mg := mg) (by rw [hg]; exact T.g) (mg_of L.X T.g e) h) hd
theorem blF {x : Str} {p : Pos} {v : Value} {Q : Value → Shared → Prop} (L : Ld w s.heap) (hg : env.globals = mainGlobals) (hb : env.builtins = builtinsNs) (hk : env.scope.kind = .function) (hx : env.kindOf x = some .globalImplicit)
    (e : nsIn (KF w) mainGlobals x = some none) (hv : bootBuiltins x = some v) (h : Q v s) (hn : x ≠ "__name__" := by decide) (hd : (x == ("__debug__" : Str)) = false := by decide) : wpAny M A (eval (.Name x p) env) Q E s := by
  obtain ⟨_, _, mg, mb, T⟩ := L.T
  exact Calls.Name_function_global hk hx (Calls.loadGlobal_builtin (env := env) (mg := mg) (mb := mb) (by rw [hg]; exact T.g) (mg_none_of L.X T.g e) (by rw [hb]; exact T.b) ((T.builtins x hn).trans hv) h) hd
end

/-! the defs -/
def fdOfObj : Option Obj → FuncData
  | some ⟨_, _, .func fd, _⟩ => fd
  | _ => default
noncomputable def fdAt (w : World) (a : Addr) : FuncData := fdOfObj ((KF w).lookup a)
def stmtsOf : FuncBody → List Stmt
  | .stmts b => b
  | .expr _ => []
noncomputable def bodyAt (w : World) (a : Addr) : List Stmt := stmtsOf (fdAt w a).body
noncomputable abbrev envAt (w : World) (a L : Addr) : Env := callEnvC (fdAt w a) L a

section
variable {prog : Program} {w : World} {A : Around} {g : Heap} {s : Shared}
/-- a call of a def of the text -/
theorem call_at {R : Result → Shared → Prop} (a : Addr) {args : Args} {binds : List (Str × Value)} (lent : List (Addr × Obj)) (L : Ld w g)
    (k : Kp g s.heap) (hl : ∀ p ∈ lent, s.heap.get? p.1 = some p.2 ∧ g.get? p.1 = none) (hnd : (lent.map (·.1)).Nodup)
    (hroom : A.depth < recursionLimit) (ho : (KF w).lookup a = some ⟨.type "function", none, .func (fdAt w a), #[]⟩) (hcd : codeIn (KF w) (fdAt w a).code (fdAt w a).qualname = true)
    (hbody : (fdAt w a).body = .stmts (bodyAt w a)) (hbind : BindsTo s (fdAt w a) args binds) (hclo : (fdAt w a).closure = [])
    (hkind : (binds.all fun y => (fdAt w a).scope.names.lookup y.1 == some .local || (fdAt w a).scope.names.lookup y.1 == some .cell) = true)
    (hco : (fdAt w a).scope.isCoroutine = false) (hgen : (fdAt w a).scope.isGenerator = false) (hk : (fdAt w a).scope.kind = .function)
    (h : ∀ s₁, FS g (hideS lent s) (envAt w a s.heap.objs.size) [] (bindAll binds fun _ => none) lent g s₁ →
      wpAny (model prog w) (A.deeper (envAt w a s.heap.objs.size)) (execs (bodyAt w a) (envAt w a s.heap.objs.size)) (fun f s' => R (.ok (.ret (match f with | .ret v => v | _ => .none))) s')
        (fun e s' => wpAny (model prog w) (A.deeper (envAt w a s.heap.objs.size)) (leaving (envAt w a s.heap.objs.size) e) (fun _ s'' => R (.error e) s'') (fun e' s'' => R (.error e') s'') s') s₁) :
    codeAny (model prog w) A (.call (.ref a) args) R s :=
  call_def lent k hl hnd hroom (L.X _ _ ho) rfl L.lim (codeRec_of L.X hcd) hbody hbind hclo hkind h hco hgen hk
end

end Mine
end

section
open PySem PySem.W PyProof.Rows
set_option autoImplicit false
set_option maxRecDepth 100000
set_option linter.unusedVariables false
namespace Mine

/-! dicts of str keys -/
structure Dz (m : Str → Option Value) (k : Nat) (o : Obj) : Prop where
  ex : ∃ es ep, o = { cls := .type "dict", data := .dict es ep } ∧ StrKeys es ∧ (∀ n, nsFind es n = m n) ∧ es.size ≤ k
theorem Dz.nil : Dz (fun _ => none) 0 emptyDict := ⟨#[], 0, rfl, (fun _ h => by simp at h), fun _ => rfl, Nat.le_refl _⟩
theorem Dz.look {m : Str → Option Value} {k : Nat} {o : Obj} (h : Dz m k o) (n : Str) : lookIn n o = some (m n) := by
  obtain ⟨es, ep, rfl, sk, hm, _⟩ := h.ex
  unfold lookIn
  dsimp only
  have := hm n
  unfold nsFind findBy at this
  rw [← Array.find?_toList] at this
  cases q : es.toList.find? (·.key.isStr n) with
  | some e => rw [q] at this; rw [← this]; rfl
  | none =>
    rw [q] at this
    have hany : es.toList.any (·.refKey) = false := by
      rw [List.any_eq_false]; intro e he
      obtain ⟨n', t, h⟩ := sk e (by simpa using he)
      simp [DictEntry.refKey, h]
    rw [← this]; simp [hany]
theorem Dz.put {m : Str → Option Value} {k : Nat} {o : Obj} (h : Dz m k o) (name : Str) (hsh : Int) (t : Tok) (v : Value) : Dz (Mine.put m name v) (k + 1) (Obj.putName name hsh (.str name t) v o) := by
  obtain ⟨es, ep, rfl, sk, hm, hz⟩ := h.ex
  cases hi : es.findIdx? (·.key.isStr name) with
  | some i =>
    refine ⟨_, ep, by simp only [Obj.putName_eq, Obj.putNameByArray, hi], sk.modify i v, fun x => ?_, by rw [Array.size_modify]; omega⟩
    show _ = if x = name then some v else m x
    rw [← hm]; exact findBy_modify (fun n v => v.isStr n) Value.isStr_inj es name x v i hi
  | none =>
    refine ⟨_, ep + 1, by simp only [Obj.putName_eq, Obj.putNameByArray, hi], sk.push hsh name t v, fun x => ?_, by rw [Array.size_push]; omega⟩
    show _ = if x = name then some v else m x
    rw [← hm]
    exact findBy_push (fun n v => v.isStr n) es name x _ _ v (fun y => by
      show (name == y) = decide (y = name)
      by_cases h : y = name
      · subst h; simp
      · have : ¬ name = y := fun e => h e.symm
        simp [h, this]) hi
theorem Dz.free {m : Str → Option Value} {k : Nat} {o : Obj} (h : Dz m k o) : o.isFreed = false := by obtain ⟨es, ep, rfl, _⟩ := h.ex; rfl
theorem Dz.past {m : Str → Option Value} {k : Nat} {o : Obj} (h : Dz m k o) (hk : k ≤ 1000) : o.data.pastItsLine = none := by
  obtain ⟨es, ep, rfl, _, _, hz⟩ := h.ex
  exact pastItsLine_dict (by rw [sizeLine_eq]; omega)

section
variable {prog : Program} {w : World} {A : Around} {E : Value → Shared → Prop} {g : Heap} {s : Shared} {env : Env}
theorem setAttr_I {x dx : Addr} {od : Obj} {name : Str} {v : Value} {md : Str → Option Value} {k : Nat} {Q : Unit → Shared → Prop} (X : (KF w).In s.heap) (hx : s.heap.get? x = some (instObj 73 dx)) (hd : s.heap.get? dx = some od) (D : Dz md k od) (hk : k < 1000)
    (ht : takerIn (KF w) 73 name = some none)
    (h : ∀ h' od' tk, Heap.SameBut dx s.heap h' → h'.get? dx = some od' → Dz (put md name v) (k + 1) od' → Q () { s with heap := h', toks := tk }) :
    wpAny (model prog w) A (setAttr (.ref x) name v) Q E s := by
  have I : InstAt s.heap x (instObj 73 dx) 73 (some od) := ⟨hx, rfl, rfl, hd⟩
  refine set_plain X I (by rfl) ?_
  have X' : (KF w).In ({ s with toks := s.toks + 1 } : Shared).heap := X
  have I' : InstAt ({ s with toks := s.toks + 1 } : Shared).heap x (instObj 73 dx) 73 (some od) := I
  refine osa_open (s := { s with toks := s.toks + 1 }) X I' (by rfl) ht fun b => ?_
  obtain ⟨cd, hc, hd'⟩ := any_some (show (clsIn (KF w) 73).any (·.hasDict) = true by rfl)
  refine wpAny_bind (wpAny_pure (wpAny_bind (wpAny_bind (wpAny_loadPart (o := instObj 73 dx) hx (wpAny_bind ((looks_clsIn X' hc).here ?_))))))
  rw [hd']
  refine wpAny_pure (a := some dx) (wpAny_bind (wpAny_pure (wpAny_bind ?_)))
  unfold nsSet
  refine wpAny_bind (wpAny_bind (wpAny_askSetting (wpAny_pure (wpAny_bind (wpAny_mkText (wpAny_bind (wpAny_loadPart (o := od) hd ?_)))))))
  obtain ⟨es, ep, rfl, sk, hm, hz⟩ := D.ex
  dsimp only
  have c : (!es.any (·.key.isStr name) && es.any (·.refKey)) = false := by
    have hany : es.any (·.refKey) = false := by
      rw [Array.any_eq_false']; intro e he; obtain ⟨n, t, h⟩ := sk e he; simp [DictEntry.refKey, h]
    rw [hany, Bool.and_false]
  rw [aRefKeyMayBeTheName_at, c]
  have Dp := D.put name (PyData.keyHash w.params name) (s.toks + 1) v
  have D' : (s.heap.update dx (Obj.putName name (PyData.keyHash w.params name) (.str name (s.toks + 1)) v)).get? dx = some _ := Heap.get?_update_self _ hd Dp.free
  refine wpAny_updatePart (o := { cls := .type "dict", data := .dict es ep }) hd ?_
  refine wpAny_bind (wpAny_lookBehind (o := Obj.putName name (PyData.keyHash w.params name) (.str name (s.toks + 1)) v { cls := .type "dict", data := .dict es ep }) D' (Dp.past (by omega)) ?_)
  exact wpAny_pure (h _ _ _ (Heap.SameBut.update ..) D' Dp)

theorem getAttr_I {x dx : Addr} {od : Obj} {md : Str → Option Value} {k : Nat} {name : Str} {v : Value} {expr : Bool} {Q : Value → Shared → Prop} (X : (KF w).In s.heap) (hx : s.heap.get? x = some (instObj 73 dx)) (hd : s.heap.get? dx = some od) (D : Dz md k od)
    (hl : md name = some v) (h : ∀ t, Q v { s with toks := t }) (hg : plainGet (KF w) 73 name = true := by rfl) (ha : findIn (KF w) (.ref 73) name = some none := by rfl) (hv : handedIn v = true := by rfl) :
    wpAny (model prog w) A (getAttr (.ref x) name expr) Q E s :=
  get_value X ⟨hx, rfl, rfl, hd⟩ (plainGet_of hg).1 (findObj_own (attr := none) (by rfl) ha rfl (by rw [D.look, hl])) hv (h _)
end

/-! entries -/
structure EntD (md : Str → Option Value) (l1 l2 : Addr) : Prop where
  ua : md (Str.ofString "useragents") = some (.ref l1)
  rl : md (Str.ofString "rulelines") = some (.ref l2)
  dl : md (Str.ofString "delay") = some .none
  rr : md (Str.ofString "req_rate") = some .none
def IsEnt (g : Heap) (e : Addr) (xs : List Ag) : Prop := ∃ dx od md k l1 l2, g.get? e = some (instObj 73 dx) ∧ g.get? dx = some od ∧ Dz md k od ∧ EntD md l1 l2 ∧ LS g l1 xs ∧ LL g l2 []
theorem IsEnt.mono {g g' : Heap} {e : Addr} {xs : List Ag} (h : IsEnt g e xs) (k : Kp g g') : IsEnt g' e xs :=
  let ⟨dx, od, md, n, l1, l2, a, b, c, d, f, i⟩ := h; ⟨dx, od, md, n, l1, l2, k _ _ a, k _ _ b, c, d, f.mono k, i.mono k⟩
end Mine
end

section
open PySem PySem.W PyProof.Rows
set_option autoImplicit false
set_option maxRecDepth 100000
set_option linter.unusedVariables false
namespace Mine
local macro_rules | `(tactic| walk_at "body") => `(tactic| (unfold bodyAt; conv => (arg 3; arg 1; whnf)))
local macro_rules | `(tactic| walk_at "bind") => `(tactic| (refine BindsTo.of_eq ?_; unfold fdAt; (conv => lhs; arg 1; whnf); rfl))

section
variable {prog : Program} {w : World} {A : Around} {E : Value → Shared → Prop} {g₀ g : Heap} {s₀ s : Shared} {env : Env} {ro : List Str} {m : Str → Option Value} {own : List (Addr × Obj)}

theorem newList_F {M : Model} {vs : List Value} {Q : Value → Shared → Prop} (F : FS g₀ s₀ env ro m own g s) (h : ∀ a s', FS g₀ s₀ env ro m ((a, lo vs 0) :: own) g s' → Q (.ref a) s') (hsz : vs.length ≤ sizeLine := by size_fits) :
    wpAny M A (newList vs) Q E s := wpAny_newObj_type (h _ _ (F.push _)) (by show vs.toArray.size ≤ sizeLine; rw [List.size_toArray]; exact hsz)

theorem FS.tok (F : FS g₀ s₀ env ro m own g s) (t : Nat) : FS g₀ s₀ env ro m own g { s with toks := t } := F.on (Grow.tok F.kp t)

/-- the second of the own objects changes -/
theorem FS.upd2 {a : Addr} {o o' : Obj} {p : Addr × Obj} {tk : Nat} {h' : Heap} (F : FS g₀ s₀ env ro m (p :: (a, o) :: own) g s) (hs : Heap.ExtBut a s.heap h') (ho : h'.get? a = some o') :
    FS g₀ s₀ env ro m (p :: (a, o') :: own) g { s with heap := h', toks := tk } := by
  have nd := F.ownNd
  have F1 : FS g₀ s₀ env ro m ((a, o) :: p :: own) g s := F.less (fun q hq => by simp only [List.mem_cons] at hq ⊢; rcases hq with h | h | h <;> simp [h]) (by
    simp only [List.map_cons, List.nodup_cons, List.mem_cons, not_or] at nd ⊢
    exact ⟨⟨Ne.symm nd.1.1, nd.2.1⟩, nd.1.2, nd.2.2⟩)
  have F2 := F1.upd (tk := tk) hs ho
  exact F2.less (fun q hq => by simp only [List.mem_cons] at hq ⊢; rcases hq with h | h | h <;> simp [h]) (by simpa using nd)

theorem cNone {M : Model} {kk : Nat} {pos : Pos} {Q : Value → Shared → Prop} (h : Q .none s) : wpAny M A (eval (.Constant .none kk pos) env) Q E s := fun _ _ _ => h
theorem cBool {M : Model} {b : Bool} {kk : Nat} {pos : Pos} {Q : Value → Shared → Prop} (h : Q (.bool b) s) : wpAny M A (eval (.Constant (.bool b) kk pos) env) Q E s := fun _ _ _ => h
theorem cInt {M : Model} {i : Int} {kk : Nat} {pos : Pos} {Q : Value → Shared → Prop} (F : FS g₀ s₀ env ro m own g s) (h : ∀ t s', FS g₀ s₀ env ro m own g s' → s'.heap = s.heap → Q (.int i t) s') : wpAny M A (eval (.Constant (.int i) kk pos) env) Q E s := wpAny_Constant_int (h _ _ (F.tok _) rfl)
theorem cStr {M : Model} {x : Str} {kk : Nat} {pos : Pos} {Q : Value → Shared → Prop} (F : FS g₀ s₀ env ro m own g s) (h : ∀ t s', FS g₀ s₀ env ro m own g s' → s'.heap = s.heap → Q (.str x t) s') : wpAny M A (eval (.Constant (.str x) kk pos) env) Q E s := Calls.Constant_str (h _ _ (F.tok _) rfl)
theorem FS.swap {p q : Addr × Obj} (F : FS g₀ s₀ env ro m (p :: q :: own) g s) : FS g₀ s₀ env ro m (q :: p :: own) g s :=
  F.less (fun r hr => by simp only [List.mem_cons] at hr ⊢; rcases hr with h | h | h <;> simp [h]) (by
    have nd := F.ownNd
    simp only [List.map_cons, List.nodup_cons, List.mem_cons, not_or] at nd ⊢
    exact ⟨⟨Ne.symm nd.1.1, nd.2.1⟩, nd.1.2, nd.2.2⟩)
theorem FS.perm {own' : List (Addr × Obj)} (F : FS g₀ s₀ env ro m own g s) (h : own.Perm own') : FS g₀ s₀ env ro m own' g s :=
  F.less (fun r hr => h.mem_iff.mpr hr) ((h.map _).nodup_iff.mp F.ownNd)

theorem init_ok {x dx : Addr} {R : Result → Shared → Prop} (k : Kp g s.heap) (L : Ld w g) (rm : Rm 2 A) (hx : s.heap.get? x = some (instObj 73 dx)) (hxg : g.get? x = none) (hd : s.heap.get? dx = some emptyDict) (hdg : g.get? dx = none) (hne : x ≠ dx)
    (h : ∀ od md l1 l2 s', Ret g s [(x, instObj 73 dx), (dx, emptyDict)] [(x, instObj 73 dx), (dx, od), (l1, lo [] 0), (l2, lo [] 0)] g s' → Dz md 4 od → EntD md l1 l2 → R (.ok (.ret .none)) s') :
    codeAny (model prog w) A (.call (.ref 49) ⟨[.ref x], []⟩) R s := by
  refine call_at 49 (binds := [(Str.ofString "self", .ref x)]) [(x, instObj 73 dx), (dx, emptyDict)] L k (fun p hp => by simp only [List.mem_cons, List.not_mem_nil, or_false] at hp; rcases hp with rfl | rfl <;> exact ⟨by assumption, by assumption⟩) (by simp [hne]) rm.room rfl rfl rfl (by walk_at "bind") rfl rfl rfl rfl rfl fun s₁ F => ?_
  walk_at "body"
  have D0 := Dz.nil
  refine wpAny_execs_cons (plainObj_wpAny_Assign_Attribute (List_ (spliced_none (newList_F F.swap fun l1 s₂ F => ?_))) rfl)
  refine nmF F rfl (.inl rfl) rfl ?_
  refine setAttr_I (L.X.keeps F.kp) (F.ownGet (.tail _ (.tail _ (.head _)))) (F.ownGet (.tail _ (.head _))) D0 (by decide) rfl fun h' od' tk hs ho D1 => ?_
  have F := F.swap.upd (tk := tk) hs.extBut ho
  refine wpAny_execs_cons (plainObj_wpAny_Assign_Attribute (List_ (spliced_none (newList_F F fun l2 s₃ F => ?_))) rfl)
  refine nmF F rfl (.inl rfl) rfl ?_
  refine setAttr_I (L.X.keeps F.kp) (F.ownGet (.tail _ (.tail _ (.tail _ (.head _))))) (F.ownGet (.tail _ (.head _))) D1 (by decide) rfl fun h' od' tk hs ho D2 => ?_
  have F := F.swap.upd (tk := tk) hs.extBut ho
  refine wpAny_execs_cons (plainObj_wpAny_Assign_Attribute (cNone (nmF F rfl (.inl rfl) rfl ?_)) rfl)
  refine setAttr_I (L.X.keeps F.kp) (F.ownGet (.tail _ (.tail _ (.tail _ (.head _))))) (F.ownGet (.head _)) D2 (by decide) rfl fun h' od' tk hs ho D3 => ?_
  have F := F.upd (tk := tk) hs.extBut ho
  refine wpAny_execs_cons (plainObj_wpAny_Assign_Attribute (cNone (nmF F rfl (.inl rfl) rfl ?_)) rfl)
  refine setAttr_I (L.X.keeps F.kp) (F.ownGet (.tail _ (.tail _ (.tail _ (.head _))))) (F.ownGet (.head _)) D3 (by decide) rfl fun h' od4 tk hs ho D4 => ?_
  have F := F.upd (tk := tk) hs.extBut ho
  refine wpAny_execs_nil (h od4 _ l1 l2 _ (F.less ?_ ?_).ret D4 ⟨rfl, rfl, rfl, rfl⟩)
  · intro p hp
    simp only [List.mem_cons, List.not_mem_nil, or_false] at hp ⊢
    rcases hp with h | h | h | h <;> simp [h]
  · have nd := F.ownNd
    simp only [List.map_cons, List.map_nil, List.nodup_cons, List.mem_cons, List.not_mem_nil, or_false, not_or, not_false_eq_true, List.nodup_nil, and_true] at nd ⊢
    simp only [ne_eq, eq_comm] at nd ⊢
    simp [nd]

/-- Entry() -/
theorem newEntry {Q : Value → Shared → Prop} (F : FS g₀ s₀ env ro m own g s) (L : Ld w g) (rm : Rm 5 A)
    (h : ∀ x dx od md l1 l2 s', FS g₀ s₀ env ro m ((x, instObj 73 dx) :: (dx, od) :: (l1, lo [] 0) :: (l2, lo [] 0) :: own) g s' → Dz md 4 od → EntD md l1 l2 → Q (.ref x) s') :
    wpAny (model prog w) A (call (.ref 73) []) Q E s := by
  refine wpAny_call ?_
  have F1 := F.push emptyDict
  have F2 := F1.push (instObj 73 s.heap.objs.size)
  obtain ⟨hh, gs, d, t, os⟩ := s
  have X : (KF w).In hh := L.X.keeps F.kp
  refine make_core (init := .ref 49) (makes_of X (by rfl)) (looks_findIn X (by rfl)) (fun self => bind_fn X self (by rfl)) (.inl (by rfl)) ?_
  rw [show ((⟨hh, gs, d, t, os⟩ : Shared).heap.push emptyDict).objs.size = hh.objs.size + 1 from Heap.size_push ..] at F2
  have wt : (Code.builtin "type.__call__" ⟨[.ref 73], []⟩).weight = 1 := by rfl
  have ut : (Code.builtin "type.__call__" ⟨[.ref 73], []⟩).cUnits ≤ 20 := by decide
  have rm' : Rm 2 (A.under (.builtin "type.__call__" ⟨[.ref 73], []⟩)) := ⟨rm.hh, by have := rm.dp; show A.depth + _ + 2 < _; rw [wt]; omega, by have := rm.un; show A.units + _ + 20 * 2 < _; omega⟩
  obtain ⟨a1, _, a3, _⟩ := F2.mine _ (.head _)
  obtain ⟨b1, _, b3, _⟩ := F2.mine _ (.tail _ (.head _))
  refine init_ok (dx := hh.objs.size) F2.kp L rm' a1 a3 b1 b3 (Nat.succ_ne_self _) fun od md l1 l2 s' R D e => ?_
  refine ⟨rfl, h (hh.objs.size + 1) hh.objs.size od md l1 l2 s' ?_ D e⟩
  exact FS.back (lent := [(hh.objs.size + 1, instObj 73 hh.objs.size), (hh.objs.size, emptyDict)]) (own := own) F2 R
end
end Mine
end

section
open PySem PySem.W PyProof.Rows
set_option autoImplicit false
set_option maxRecDepth 100000
set_option linter.unusedVariables false
namespace Mine
local macro_rules | `(tactic| walk_at "body") => `(tactic| (unfold bodyAt; conv => (arg 3; arg 1; whnf)))
local macro_rules | `(tactic| walk_at "bind") => `(tactic| (refine BindsTo.of_eq ?_; unfold fdAt; (conv => lhs; arg 1; whnf); rfl))

section
variable {prog : Program} {w : World} {A : Around} {E : Value → Shared → Prop} {g₀ g : Heap} {s₀ s : Shared} {env : Env} {ro : List Str} {m : Str → Option Value} {own : List (Addr × Obj)}

/-- calls of the text's own defs and classes -/
theorem callG {M : Model} {x : Str} {p pos : Pos} {e : Expr} {rest : List Expr} {v : Value} {Q : Value → Shared → Prop} (L : Ld w s.heap)
    (hg : env.globals = mainGlobals) (hk : env.scope.kind = .function) (hx : env.kindOf x = some .globalImplicit) (hv : nsIn (KF w) mainGlobals x = some (some v)) (hkeep : keepIn (KF w) v = true)
    (h : wpAny M A (spliced (backTo pos (starEach (e :: rest) env))) (fun vs s₁ => (KF w).In s₁.heap ∧ wpAny M A (call v vs) Q E s₁) E s)
    (he : starEach (e :: rest) env = (false, eval e env) :: starEach rest env := by rfl) (hplain : (backTo pos (starEach rest env)).any (·.1) = false := by rfl) (hd : (x == ("__debug__" : Str)) = false := by decide) :
    wpAny M A (eval (.Call (.Name x p) (e :: rest) [] pos) env) Q E s :=
  Call_Name rfl (glF L hg hk hx hv (callWith_K L.X hkeep (first := []) h he hplain) hd)
theorem callG0 {M : Model} {x : Str} {p pos : Pos} {v : Value} {Q : Value → Shared → Prop} (L : Ld w s.heap)
    (hg : env.globals = mainGlobals) (hk : env.scope.kind = .function) (hx : env.kindOf x = some .globalImplicit) (hv : nsIn (KF w) mainGlobals x = some (some v)) (hkeep : keepIn (KF w) v = true)
    (h : wpAny M A (call v []) Q E s) (hd : (x == ("__debug__" : Str)) = false := by decide) : wpAny M A (eval (.Call (.Name x p) [] [] pos) env) Q E s :=
  Call_Name rfl (glF L hg hk hx hv (callWith_K0 L.X hkeep (first := []) h) hd)
/-- calls of built-in functions -/
theorem callB {M : Model} {x : Str} {p pos : Pos} {e : Expr} {rest : List Expr} {id : String} {Q : Value → Shared → Prop} (L : Ld w s.heap)
    (hg : env.globals = mainGlobals) (hb : env.builtins = builtinsNs) (hk : env.scope.kind = .function) (hx : env.kindOf x = some .globalImplicit) (hm : nsIn (KF w) mainGlobals x = some none) (hv : bootBuiltins x = some (.builtin id))
    (h : wpAny M A (spliced (backTo pos (starEach (e :: rest) env))) (fun vs s₁ => wpAny M A (call (.builtin id) vs) Q E s₁) E s)
    (he : starEach (e :: rest) env = (false, eval e env) :: starEach rest env := by rfl) (hplain : (backTo pos (starEach rest env)).any (·.1) = false := by rfl) (hn : x ≠ "__name__" := by decide) (hd : (x == ("__debug__" : Str)) = false := by decide) :
    wpAny M A (eval (.Call (.Name x p) (e :: rest) [] pos) env) Q E s :=
  Call_Name rfl (blF L hg hb hk hx hm hv (callWith_method1 (first := []) h he hplain) hn hd)
/-- calls of built-in types -/
theorem callT {M : Model} {x : Str} {p pos : Pos} {e : Expr} {rest : List Expr} {T : String} {Q : Value → Shared → Prop} (L : Ld w s.heap)
    (hg : env.globals = mainGlobals) (hb : env.builtins = builtinsNs) (hk : env.scope.kind = .function) (hx : env.kindOf x = some .globalImplicit) (hm : nsIn (KF w) mainGlobals x = some none) (hv : bootBuiltins x = some (.type T))
    (h : wpAny M A (spliced (backTo pos (starEach (e :: rest) env))) (fun vs s₁ => wpAny M A (call (.type T) vs) Q E s₁) E s)
    (he : starEach (e :: rest) env = (false, eval e env) :: starEach rest env := by rfl) (hplain : (backTo pos (starEach rest env)).any (·.1) = false := by rfl) (hn : x ≠ "__name__" := by decide) (hd : (x == ("__debug__" : Str)) = false := by decide) :
    wpAny M A (eval (.Call (.Name x p) (e :: rest) [] pos) env) Q E s :=
  Call_Name rfl (blF L hg hb hk hx hm hv (callWith_type1 h he hplain) hn hd)

theorem extend_F {a b : Addr} {vs ws : List Value} {n : Nat} {Q : Value → Shared → Prop} (F : FS g₀ s₀ env ro m ((a, lo vs n) :: own) g s) (hb : LL s.heap b ws)
    (h : ∀ n' s', FS g₀ s₀ env ro m ((a, lo (vs ++ ws) n') :: own) g s' → Q .none s') (hsz : vs.length + ws.length ≤ sizeLine := by size_fits) :
    wpAny (model prog w) A (call (.builtin "list.extend") [.ref a, .ref b]) Q E s := by
  obtain ⟨n2, hb⟩ := hb
  have hm := F.ownGet (.head _)
  have hsz' : vs.toArray.size + ws.toArray.size ≤ sizeLine := by simpa using hsz
  refine call_meets PySem.F.slot_list_extend ⟨_, hm, rfl⟩ PySem.F.entry_list_extend (PySem.F.args_list_extend_2 _ _) (AutoSeq1.list_extend_list_list_0 a vs.toArray n b ws.toArray n2 (extend_door hsz') (Nat.le_trans (Nat.le_add_right _ _) hsz')) ⟨hm, hb, ?_⟩
  have e : vs.toArray ++ ws.toArray = (vs ++ ws).toArray := by simp
  have ho' : (s.heap.update a (Obj.mapSeq fun x => x ++ ws.toArray)).get? a = some (lo (vs ++ ws) (if (vs.toArray ++ ws.toArray).size == vs.toArray.size then n else n + 1)) := by
    rw [Heap.get?_update_self _ hm (by rw [mapSeq_app]; rfl), mapSeq_app, e]
  exact h _ _ (F.upd (tk := s.toks) (Heap.SameBut.update ..).extBut ho')

theorem append_F {a : Addr} {vs : List Value} {v : Value} {n : Nat} {Q : Value → Shared → Prop} (F : FS g₀ s₀ env ro m ((a, lo vs n) :: own) g s)
    (h : ∀ n' s', FS g₀ s₀ env ro m ((a, lo (vs ++ [v]) n') :: own) g s' → Q .none s') (hsz : vs.length ≤ sizeLine := by size_fits) :
    wpAny (model prog w) A (call (.builtin "list.append") [.ref a, v]) Q E s := by
  have hm := F.ownGet (.head _)
  refine call_meets PySem.F.slot_list_append ⟨_, hm, rfl⟩ PySem.F.entry_list_append (PySem.F.args_list_append_2 _ _) (list_append a vs.toArray n v (by simpa using hsz)) ⟨hm, ?_⟩
  have e : vs.toArray.push v = (vs ++ [v]).toArray := by simp
  have ho' : (s.heap.update a (Obj.mapSeq fun x => x.push v)).get? a = some (lo (vs ++ [v]) (if (vs.toArray.push v).size == vs.toArray.size then n else n + 1)) := by
    rw [Heap.get?_update_self _ hm rfl]
    show some ({ cls := .type "list", data := .seq (vs.toArray.push v) (if (vs.toArray.push v).size == vs.toArray.size then n else n + 1) } : Obj) = _
    rw [e]
  exact h _ _ (F.upd (tk := s.toks) (Heap.SameBut.update ..).extBut ho')

theorem getMethod_G {a : Addr} {vs : List Value} {name : Str} {id : String} {pl : Sem Bool} {Q : Value × List Value → Shared → Prop} (slot : Slot "list" name id) (hty : typeOf (.builtin id) = pure (.type "method_descriptor")) (ha : LL s.heap a vs) (h : Q (.builtin id, [.ref a]) s) :
    wpAny (model prog w) A (getMethod (.ref a) name pl) Q E s := by
  obtain ⟨n, e⟩ := ha
  exact getMethod_list_of slot hty ⟨_, e, rfl, n, rfl⟩ ⟨_, e, rfl⟩ h

theorem freeze2 {p q : Addr × Obj} (F : FS g₀ s₀ env ro m (p :: q :: own) g s) : ∃ g', FS g₀ s₀ env ro m own g' s ∧ Kp g g' ∧ g'.get? p.1 = some p.2 ∧ g'.get? q.1 = some q.2 := by
  obtain ⟨g1, F1, k1, e1⟩ := F.freeze
  obtain ⟨g2, F2, k2, e2⟩ := F1.freeze
  exact ⟨g2, F2, k1.trans k2, k2 _ _ e1, e2⟩

/-- _law_record -/
theorem record_ok {a : Addr} {xs : List Ag} {Q : Value → Shared → Prop} (L : Ld w g) (k : Kp g s.heap) (rm : Rm 8 A) (ha : LS g a xs) (hz : xs.length ≤ 1000)
    (h : ∀ g' s' e, Grow g s g' s' → IsEnt g' e xs → Q (.ref e) s') : wpAny (model prog w) A (call (.ref 91) [.ref a]) Q E s := by
  refine wpAny_call ?_
  refine call_at 91 (binds := [(Str.ofString "agents", .ref a)]) [] L k (fun _ h => nomatch h) List.nodup_nil rm.room rfl rfl rfl (by walk_at "bind") rfl rfl rfl rfl rfl fun s₁ F => ?_
  walk_at "body"
  have rm1 : Rm 7 (A.deeper (envAt w 91 s.heap.objs.size)) := rm.deeper
  refine wpAny_execs_cons (wpAny_Assign_Name (callG0 (L.mono F.kp) rfl rfl rfl rfl rfl (newEntry F L (rm1.less (by omega)) fun x dx od md l1 l2 s₂ F D e => ?_)) rfl)
  refine stF F rfl (.inl rfl) fun s₃ F => ?_
  refine wpAny_execs_cons (wpAny_Expr (MethodCall_ (Attribute_Name_ (nmF F rfl (.inl rfl) rfl ?_)) rfl) rfl rfl)
  refine getAttr_I (L.X.keeps F.kp) (F.ownGet (.head _)) (F.ownGet (.tail _ (.head _))) D e.ua fun t => ?_
  have F := F.tok t
  refine getMethod_G (vs := []) PySem.F.slot_list_extend PySem.F.type_list_extend ⟨0, F.ownGet (.tail _ (.tail _ (.head _)))⟩ ?_
  refine callWith_method1 (spliced_more (nmF F rfl (.inl rfl) rfl (spliced_none ?_))) rfl rfl
  obtain ⟨ps, rfl, hl⟩ := ha
  have F : FS g (hideS [] s) (envAt w 91 s.heap.objs.size) [] _ [(l1, lo [] 0), (x, instObj 73 dx), (dx, od), (l2, lo [] 0)] g _ := F.less (fun p hp => by
    simp only [List.mem_cons, List.not_mem_nil, or_false] at hp ⊢
    rcases hp with h | h | h | h <;> simp [h]) (by
    have nd := F.ownNd
    simp only [List.map_cons, List.map_nil, List.nodup_cons, List.mem_cons, List.not_mem_nil, or_false, not_or, not_false_eq_true, List.nodup_nil, and_true] at nd ⊢
    simp only [eq_comm] at nd ⊢
    simp [nd])
  refine extend_F F (hl.mono F.kp) (fun n' s₄ F => ?_) (by rw [sizeLine_eq]; simpa using (by simpa using Nat.le_trans hz (by decide)))
  refine wpAny_execs_cons (wpAny_Return_some (nmF F rfl (.inl rfl) rfl ?_))
  obtain ⟨g1, F, k1, e1⟩ := F.freeze
  obtain ⟨g2, F, k2, e2⟩ := F.freeze
  obtain ⟨g3, F, k3, e3⟩ := F.freeze
  obtain ⟨g4, F, k4, e4⟩ := F.freeze
  refine h g4 _ x F.ret.toGrow ⟨dx, od, md, 4, l1, l2, k4 _ _ (k3 _ _ e2), k4 _ _ e3, D, e, ⟨ps, rfl, n', ?_⟩, ⟨0, e4⟩⟩
  exact k4 _ _ (k3 _ _ (k2 _ _ e1))
end
end Mine
end

section
set_option maxRecDepth 100000
set_option maxHeartbeats 1000000
set_option autoImplicit false
set_option linter.unusedVariables false
open PySem PySem.W PyProof.Rows
namespace Mine
theorem md_lookup : typeLookup (.type "method_descriptor") "__get__" = pure (some (.builtin "method_descriptor.__get__")) := by rw [typeLookup_type, builtinLookup_eq_fast]; kernel_rfl
theorem md_noset : typeLookup (.type "method_descriptor") "__set__" = pure none := by rw [typeLookup_type, builtinLookup_eq_fast]; kernel_rfl
theorem md_nodel : typeLookup (.type "method_descriptor") "__delete__" = pure none := by rw [typeLookup_type, builtinLookup_eq_fast]; kernel_rfl
theorem ty_contains : typeOf (.builtin "set.__contains__") = pure (.type "method_descriptor") := by show builtinType _ = _; rw [builtinType_eq_fast]; kernel_rfl
theorem lk_contains : typeLookup (.type "set") "__contains__" = pure (some (.builtin "set.__contains__")) := by rw [typeLookup_type, builtinLookup_eq_fast]; kernel_rfl
theorem md_slot : Slot "method_descriptor" "__get__" "method_descriptor.__get__" :=
  Slot.of (T := "method_descriptor") (name := "__get__") (owner := "method_descriptor") (n := "__get__") md_lookup (by decide +kernel) (by decide +kernel) (by decide +kernel) (.inl (by decide +kernel)) (by rw [isSubtype_type]; kernel_rfl)
theorem md_entry : entryFor table "method_descriptor.__get__" = some Builtin.«method_descriptor.__get__» := entryFor_of_tree (by kernel_rfl)
theorem md_args (a b c : Value) : argsOk "method_descriptor.__get__" ⟨[a, b, c], []⟩ := by unfold argsOk; kernel_rfl
theorem owner_contains : (".".intercalate ("set.__contains__".cutAt '.').dropLast) = "set" := by decide +kernel
theorem sub_set_owner : isSubtype (.type "set") (.type (".".intercalate ("set.__contains__".cutAt '.').dropLast)) = pure true := by rw [owner_contains, isSubtype_type]; kernel_rfl
section
variable {prog : Program} {w : World} {A : Around} {E : Value → Shared → Prop} {h : Heap} {g : Array GenState} {d : Drawn} {t : Nat} {os : OsState} {a : Addr} {es : Array (Int × Value)} {ep : Nat} {tb : SetTable} {sl : Array (Option Value)}
theorem contains_get {R : Result → Shared → Prop} (hx : h.get? a = some ⟨.type "set", none, .set es ep tb, sl⟩) (hq : R (.ok (.ret (.ref h.objs.size))) ⟨h.push { cls := .type "builtin_function_or_method", data := .fields #[.builtin "set.__contains__", .ref a] }, g, d, t, os⟩) :
    codeAny (model prog w) A (.call (.builtin "method_descriptor.__get__") ⟨[.builtin "set.__contains__", .ref a, .type "set"], []⟩) R ⟨h, g, d, t, os⟩ := by
  have hT : (⟨h, g, d, t, os⟩ : Shared).TypeIs (.ref a) "set" := ⟨_, hx, rfl⟩
  have hT5 : (⟨h, g, d, t, os⟩ : Shared).TypeIs (.builtin "set.__contains__") "method_descriptor" := ty_contains
  have f8 := sub_set_owner
  refine codeAny_call_builtin md_slot.plain md_entry (md_slot.check _ _ _ _ _ _ _ _ hT5 (md_args _ _ _) ?_)
  repeat (any_goals (first | assumption | wp_step))
theorem contains_entry {tk : Tok} {Q : Fin → Shared → Prop} (hx : h.get? a = some ⟨.type "set", none, .set es ep tb, sl⟩) (hq : Q (.done (.ret (.ref h.objs.size))) ⟨h.push { cls := .type "builtin_function_or_method", data := .fields #[.builtin "set.__contains__", .ref a] }, g, d, t, os⟩) :
    wpAny (model prog w) A (Builtin.«object.__getattribute__» ⟨[.ref a, .str "__contains__" tk], []⟩) Q E ⟨h, g, d, t, os⟩ := by
  have hT : (⟨h, g, d, t, os⟩ : Shared).TypeIs (.ref a) "set" := ⟨_, hx, rfl⟩
  have hT5 : (⟨h, g, d, t, os⟩ : Shared).TypeIs (.builtin "set.__contains__") "method_descriptor" := ty_contains
  have f4 := lk_contains
  have f5 := ty_contains
  have f6 := md_lookup
  have f7 := md_noset
  have f8 := md_nodel
  repeat (any_goals (first | assumption | wp_step))
  refine contains_get hx ?_
  repeat (any_goals (first | assumption | wp_step))
theorem contains_call {tk : Tok} {R : Result → Shared → Prop} (hx : h.get? a = some ⟨.type "set", none, .set es ep tb, sl⟩) (hq : R (.ok (.ret (.ref h.objs.size))) ⟨h.push { cls := .type "builtin_function_or_method", data := .fields #[.builtin "set.__contains__", .ref a] }, g, d, t, os⟩) :
    codeAny (model prog w) A (.call (.builtin "set.__getattribute__") ⟨[.ref a, .str "__contains__" tk], []⟩) R ⟨h, g, d, t, os⟩ :=
  codeAny_call_builtin F.slot_set_getattribute.plain F.entry_set_ga (F.slot_set_getattribute.check _ _ _ _ _ _ _ _ (show (⟨h, g, d, t, os⟩ : Shared).TypeIs (.ref a) "set" from ⟨_, hx, rfl⟩) (F.args_set_getattribute_2 _ _) (contains_entry hx hq))

theorem getAttr_contains {Q : Value → Shared → Prop} {ex : Bool} (hx : h.get? a = some ⟨.type "set", none, .set es ep tb, sl⟩) (hq : Q (.ref h.objs.size) ⟨h.push { cls := .type "builtin_function_or_method", data := .fields #[.builtin "set.__contains__", .ref a] }, g, d, t + 1, os⟩) :
    wpAny (model prog w) A (getAttr (.ref a) "__contains__" ex) Q E ⟨h, g, d, t, os⟩ := by
  have hT : (⟨h, g, d, t + 1, os⟩ : Shared).TypeIs (.ref a) "set" := ⟨_, hx, rfl⟩
  have f2 := F.slot_set_getattribute.lookup
  have f3 := F.slot_set_getattribute.bind (.ref a)
  unfold getAttr
  repeat (any_goals (first | assumption | wp_step))
  rw [show (ex && onTheHeap (Value.builtin "set.__getattribute__")) = false from by cases ex <;> rfl]
  repeat (any_goals (first | assumption | wp_step))
  refine contains_call hx ?_
  repeat (any_goals (first | assumption | wp_step))
end

/-! set(list of agents) -/
section
variable {prog : Program} {w : World} {A : Around} {R : Result → Shared → Prop} {I : Addr} {fp wr : List Addr} {G : Array GenState → Array GenState → Prop} {n : Nat} {P : Nat → Value → Prop} {St : Nat → Shared → Prop}
theorem setOf_keep {S : Addr} {f : Str → Bool} {c : Nat} {h h' : Heap} (x : h.SetOf (strKind prog w) S f c) (k : ∀ o, h.get? S = some o → h'.get? S = some o) : h'.SetOf (strKind prog w) S f c := by
  obtain ⟨o, es, ep, tb, ho, rest⟩ := x
  exact ⟨o, es, ep, tb, k _ ho, rest⟩
theorem strKind_is (x : Str) (t : Tok) : (strKind prog w).is x (.str x t) = true := by
  show Value.isStrOf x (.str x t) = true
  simp [Value.isStrOf]
theorem set_loop (W : WalksS prog w A.in1 I fp wr G n P St) (S : Addr) (hSf : S ∉ fp) (val : Nat → Str) (hval : ∀ i v, P i v → ∃ t, v = .str (val i) t) (hb : n + 1 < scanBound) :
    ∀ (k i : Nat) (s : Shared) (f : Str → Bool) (c : Nat), n - i = k → i ≤ n → St i s → c ≤ i → (∀ x, f x = ((List.range i).map val).contains x) → s.heap.SetOf (strKind prog w) S f c →
      (∀ s' f' c', Moved (S :: wr) G s s' → (∀ x, f' x = ((List.range n).map val).contains x) → c' ≤ n → s'.heap.SetOf (strKind prog w) S f' c' → R (.ok (.ret .none)) s') →
      codeAny (model prog w) A (.builtin "set.update.loop" ⟨[.ref S, .ref I], []⟩) R s := by
  have hSw : S ∉ wr := fun h => hSf (W.sub _ h)
  have hsub : ∀ b ∈ wr, b ∈ S :: wr := fun b hb => List.mem_cons_of_mem _ hb
  intro k
  induction k with
  | zero =>
    intro i s f c hk hi hst hc hf hS hR
    have hin : i = n := by omega
    subst hin
    refine codeAny_builtin F.entry_set_update_loop ?_
    rw [Around.under_plainId F.plain_set_update_loop _]
    refine wpAny_bind (W.done s _ _ hst fun s' hm => ?_)
    exact wpAny_pure (hR s' f c (hm.mono hsub) hf hc (setOf_keep hS fun o e => hm.heap S _ hSw e))
  | succ k ih =>
    intro i s f c hk hi hst hc hf hS hR
    have hlt : i < n := by omega
    refine codeAny_builtin F.entry_set_update_loop ?_
    rw [Around.under_plainId F.plain_set_update_loop _]
    refine wpAny_bind (W.item i s _ _ hlt hst fun v s' hP hst' hm => ?_)
    obtain ⟨t, rfl⟩ := hval i v hP
    show wpAny _ A.in1 (holding [Value.str (val i) t] (setAdd S (.str (val i) t)) >>= _) _ _ s'
    refine wpAny_bind (wpAny_holding ?_)
    unfold setAdd
    refine wpAny_holding ?_
    refine wpAny_bind ((strKind prog w).pyHash (k := val i) (strKind_is _ _) ?_)
    refine wpAny_setAddHashed_of (knd := strKind prog w) (s := { s' with toks := s'.toks + 1 }) (strKind_is _ _) rfl (setOf_keep hS fun o e => hm.heap S _ hSw e) (by omega) fun h' hsb hS2 => ?_
    refine wpAny_pure ⟨plainId_quiet F.plain_set_update_loop _, ih (i + 1) _ _ _ (by omega) hlt (W.frame _ s' _ _ hst' (Nat.le_succ _) fun b hb o e => ?_) ?_ (fun x => ?_) hS2 fun s'' f' c' hm'' hf' hc' hS'' => ?_⟩
    · rw [hsb.2 b (fun h : b = S => hSf (by rw [← h]; exact hb))]; exact e
    · split <;> omega
    · rw [List.range_succ, List.map_append, List.contains_append, hf]
      congr 1
      simp only [List.map_cons, List.map_nil, List.contains_cons, List.contains_nil, Bool.or_false]
      by_cases e : x = val i <;> simp [e]
    · refine hR s'' f' c' (Moved.trans W.gtrans ((hm.mono hsub).then_heap (Nat.le_succ _) fun b o hb e => ?_) hm'') hf' hc' hS''
      rw [hsb.2 b (fun h : b = S => hb (by rw [h]; exact List.mem_cons_self))]; exact e
end

end Mine
end

section
set_option maxRecDepth 100000
set_option maxHeartbeats 1000000
set_option autoImplicit false
set_option linter.unusedVariables false
open PySem PySem.W PyProof.Rows
namespace Mine
theorem contains_nm (x : Ag) : ∀ xs : List Ag, (xs.map nm).contains (nm x) = xs.contains x
  | [] => rfl
  | y :: r => by
    rw [List.map_cons, List.contains_cons, List.contains_cons, contains_nm x r, nm_eq]; rfl
section
variable {prog : Program} {w : World} {A : Around} {E : Value → Shared → Prop} {s : Shared}
theorem call_set {l : Addr} {ps : List (Ag × Tok)} {Q : Value → Shared → Prop} (hh : A.handled = none) (hl : LL s.heap l (ps.map sv)) (hb : ps.length + 1 < scanBound)
    (h : ∀ (h' : Heap) (tk c : Nat) (f : Str → Bool), (∀ x : Ag, f (nm x) = (ps.map (·.1)).contains x) → h'.SetOf (strKind prog w) s.heap.objs.size f c → (∀ b o, b < s.heap.objs.size → s.heap.get? b = some o → h'.get? b = some o) → Q (.ref s.heap.objs.size) { s with heap := h', toks := tk }) :
    wpAny (model prog w) A (call (.type "set") [.ref l]) Q E s := by
  obtain ⟨c, tl, hmro⟩ := F.called_set.mro
  have hmade := F.called_set.made
  have hsub := F.called_set.sub
  refine wpAny_call (codeAny_of_tree ?_)
  show wpAny _ _ (callAny (.type "set") _) _ _ _
  refine wpAny_pure ⟨Code.quiet_builtin _ (by decide +kernel), codeAny_builtin F.entry_type_call ?_⟩
  rw [Around.under_plain (weight_type_call_type "set" [.ref l] []) rfl]
  have h1 := F.called_set.notType
  have h2 := F.called_set.canCreate
  have hct := F.typeCall_set_1 (.ref l)
  repeat (any_goals (first | assumption | wp_step))
  refine codeAny_mono (code_set_new_1 (.ref l) (E := E) (Q₁ := fun obj s₁ => ∃ led : Bool, obj = .ref s.heap.objs.size ∧ s₁ = { s with heap := s.heap.push { cls := .type "set", dict := none, data := .set #[] 0 (.fresh 0 0 led) } }) fun led => ⟨led, rfl, rfl⟩) fun r s₁ hr => ?_
  rcases r with e | (obj | _ | _ | _)
  · exact hr
  all_goals first | exact hr.elim | skip
  obtain ⟨led, rfl, rfl⟩ := hr
  have hS : (s.heap.push { cls := .type "set", dict := none, data := .set #[] 0 (.fresh 0 0 led) }).get? s.heap.objs.size = some { cls := .type "set", dict := none, data := .set #[] 0 (.fresh 0 0 led) } := Heap.get?_push_size _ rfl
  have hT : Shared.TypeIs { s with heap := s.heap.push { cls := .type "set", dict := none, data := .set #[] 0 (.fresh 0 0 led) } } (.ref s.heap.objs.size) "set" := ⟨_, hS, rfl⟩
  have hli := F.called_set.init.lookup
  have hbi := F.called_set.init.bind (.ref s.heap.objs.size)
  repeat (any_goals (first | assumption | wp_step))
  refine codeAny_mono (codeAny_call_builtin (R := wants (fun r s₂ => r = .none ∧ ∃ h' tk f c, s₂ = { s with heap := h', toks := tk } ∧ (∀ x : Ag, f (nm x) = (ps.map (·.1)).contains x) ∧ h'.SetOf (strKind prog w) s.heap.objs.size f c ∧
      (∀ b o, b < s.heap.objs.size → s.heap.get? b = some o → h'.get? b = some o)) E) F.called_set.init.plain F.entry_set_init (check_set_init_1 hT ?_)) fun r₂ s₂ hr₂ => ?_
  · obtain ⟨nl, hol⟩ := hl
    have hol' : (s.heap.push { cls := .type "set", dict := none, data := .set #[] 0 (.fresh 0 0 led) }).get? l = some (lo (ps.map sv) nl) := Heap.get?_push_of_some _ hol
    have hsls := F.sub_list_set
    have hslf := F.sub_list_frozenset
    have hne : (Value.type "list" == Value.type "dict") = false := by decide
    have hl1 : (s.heap.push { cls := .type "set", dict := none, data := .set #[] 0 (.fresh 0 0 led) }).IsList l (ps.map sv).toArray := ⟨_, hol', rfl, nl, rfl⟩
    unfold Builtin.«set.__init__» noKeywords Builtin.Frozenset.updateFrom
    generalize hPI : pyIter = PI
    wp_walk
    subst hPI
    refine wpAny_pyIter_list hl1 ?_
    refine wpAny_bind (wpAny_runValue ?_)
    have hlS : l < s.heap.objs.size := Heap.lt_size hol
    have hh3 : A.in1.in1.in1.handled = none := by simp [hh]
    have hneI : l ≠ (s.heap.push { cls := .type "set", dict := none, data := .set #[] 0 (.fresh 0 0 led) }).objs.size := by
      rw [Heap.size_push]; exact Nat.ne_of_lt (Nat.lt_succ_of_lt hlS)
    have hSf : s.heap.objs.size ∉ [(s.heap.push { cls := .type "set", dict := none, data := .set #[] 0 (.fresh 0 0 led) }).objs.size, l] := by
      rw [Heap.size_push]; simp only [List.mem_cons, List.mem_singleton, List.not_mem_nil, or_false, not_or]
      exact ⟨Nat.ne_of_lt (Nat.lt_succ_self _), Nat.ne_of_gt hlS⟩
    refine set_loop ((Walks.list hh3 _ l hneI _).toS) s.heap.objs.size hSf (fun i => (ps.map fun p => nm p.1).getD i (nm 0)) (fun i v hv => ?_) (by simpa using hb) _ 0 _ (fun _ => false) 0 rfl (Nat.zero_le _)
      ⟨⟨_, Heap.get?_push_size _ rfl, rfl, rfl⟩, (hl1.push _)⟩ (Nat.le_refl _) (fun _ => rfl) ?_ fun s' f' c' hm hf hc hS' => ?_
    · simp only [List.getElem?_toArray, List.getElem?_map, Option.map_eq_some_iff] at hv
      obtain ⟨p, hp, rfl⟩ := hv
      exact ⟨p.2, by simp [List.getD, hp]⟩
    · exact SetOf_congr ((setObjOf_fresh (knd := strKind prog w) led).setOf (Heap.get?_push_of_some _ hS) (by unfold scanBound; omega)) (fun _ => rfl) rfl
    · obtain ⟨h', g', d', tk', os'⟩ := s'
      have eg : g' = s.gens := hm.gens
      have ed : d' = s.drawn := hm.drawn
      have eo : os' = s.os := hm.os
      subst eg ed eo
      refine wpAny_pure ?_
      show wpAny _ _ (ret Value.none) _ _ _
      refine wpAny_pure ⟨rfl, h', tk', f', c', rfl, fun x => ?_, hS', fun b o hb e => ?_⟩
      · rw [hf]
        have e : (List.range (ps.map sv).toArray.size).map (fun i => (ps.map fun p => nm p.1).getD i (nm 0)) = (ps.map (·.1)).map nm := by
          apply List.ext_getElem
          · simp
          · intro i h1 h2
            simp at h1 h2
            simp [List.getD, h1]
        rw [e]
        exact contains_nm _ _
      · have hb1 : b ≠ s.heap.objs.size := Nat.ne_of_lt hb
        have hb2 : b ≠ (s.heap.push { cls := .type "set", dict := none, data := .set #[] 0 (.fresh 0 0 led) }).objs.size := by
          rw [Heap.size_push]; exact Nat.ne_of_lt (Nat.lt_succ_of_lt hb)
        exact hm.heap b o (by simp only [List.mem_cons, List.mem_singleton, List.not_mem_nil, or_false, not_or]; exact ⟨hb1, hb2⟩) (Heap.get?_push_of_some _ (Heap.get?_push_of_some _ e))
  · rcases r₂ with e | (r | _ | _ | _)
    · exact hr₂
    all_goals first | exact hr₂.elim | skip
    obtain ⟨rfl, h', tk, f, c, rfl, hf, hS', hk'⟩ := hr₂
    repeat (any_goals (first | assumption | wp_step))
    exact h _ _ _ _ hf hS' hk'
end
end Mine
end

section
set_option maxRecDepth 100000
set_option maxHeartbeats 1000000
set_option autoImplicit false
set_option linter.unusedVariables false
open PySem PySem.W PyProof.Rows
namespace Mine
theorem mro_filter : mroOf (.type "filter") = pure [.type "filter", .type "object"] := by rw [mroOf_type]; kernel_rfl
theorem lookup_filter_new : typeLookup (.type "filter") "__new__" = pure (some (.builtin "filter.__new__")) := by rw [typeLookup_type, builtinLookup_eq_fast]; kernel_rfl
theorem slot_filter_init : Slot "filter" "__init__" "object.__init__" :=
  Slot.of (owner := "object") (n := "__init__") (by rw [typeLookup_type, builtinLookup_eq_fast]; kernel_rfl) (by decide +kernel) (by decide +kernel) (by decide +kernel) (.inl (by decide +kernel)) (by rw [isSubtype_type]; kernel_rfl)
theorem called_filter : TypeCalled "filter" "filter.__new__" "object.__init__" :=
  ⟨by decide +kernel, by decide +kernel, ⟨_, _, mro_filter⟩, madeBy_type mro_filter lookup_filter_new (by decide +kernel), by decide +kernel, by rw [isSubtype_type]; kernel_rfl, slot_filter_init⟩
theorem typeCall_filter (a b : Value) : checkTypeCall "filter" ⟨[a, b], []⟩ = pure () := by kernel_rfl
theorem newCall_filter (a b : Value) : checkBuiltinCall "filter.__new__" ⟨[.type "filter", a, b], []⟩ = pure () := by kernel_rfl
theorem entry_filter_new : entryFor table "filter.__new__" = some Builtin.«filter.__new__» := entryFor_of_tree (by kernel_rfl)
theorem init_filter_args (obj a b : Value) : argsOk "object.__init__" ⟨[obj, a, b], []⟩ := by unfold argsOk; kernel_rfl
theorem sub_filter : isSubtype (.type "filter") (.type "filter") = pure true := by rw [isSubtype_type]; kernel_rfl
section
variable {prog : Program} {w : World} {A : Around} {E : Value → Shared → Prop} {s : Shared}
theorem filter_new {l q : Addr} {items : Array Value} {Q : PySem.Fin → Shared → Prop} (hl : s.heap.IsList l items)
   (hq : Q (.done (.ret (.ref (s.heap.objs.size + 1)))) { s with heap := (s.heap.push { cls := .type "list_iterator", data := .fields #[.ref l, .int 0 0] }).push { cls := .type "filter", data := .fields #[.ref q, .ref s.heap.objs.size] } }) :
   wpAny (model prog w) A (Builtin.«filter.__new__» ⟨[.type "filter", .ref q, .ref l], []⟩) Q E s := by
  unfold Builtin.«filter.__new__»
  obtain ⟨h, g, d, t, os⟩ := s
  have f1 := sub_filter
  generalize hPI : pyIter = PI
  wp_walk
  subst hPI
  refine wpAny_pyIter_list hl ?_
  refine wpAny_bind ?_
  show wpAny _ _ (newObj (.type "filter") (.fields #[.ref q, .ref h.objs.size])) _ _ _
  refine wpAny_newObj_type (wpAny_pure ?_)
  dsimp only at hq ⊢
  rw [Heap.size_push]
  exact hq
theorem call_filter {l q : Addr} {items : Array Value} {Q : Value → Shared → Prop} (hl : s.heap.IsList l items)
   (hq : Q (.ref (s.heap.objs.size + 1)) { s with heap := (s.heap.push { cls := .type "list_iterator", data := .fields #[.ref l, .int 0 0] }).push { cls := .type "filter", data := .fields #[.ref q, .ref s.heap.objs.size] } }) :
   wpAny (model prog w) A (call (.type "filter") [.ref q, .ref l]) Q E s := by
  refine callType_new called_filter (by decide) (typeCall_filter _ _) (newCall_filter _ _) (fun obj => init_filter_args obj _ _) entry_filter_new
    (S := fun _ R s => s.heap.IsList l items ∧ R (.ok (.ret (.ref (s.heap.objs.size + 1)))) { s with heap := (s.heap.push { cls := .type "list_iterator", data := .fields #[.ref l, .int 0 0] }).push { cls := .type "filter", data := .fields #[.ref q, .ref s.heap.objs.size] } })
    (Meets.of_wp fun prog w A R s h => filter_new h.1 ⟨_, rfl, h.2⟩) ⟨hl, ?_, hq⟩
  have e := Heap.get?_push_size (s.heap.push { cls := .type "list_iterator", data := .fields #[.ref l, .int 0 0] }) (o := { cls := .type "filter", data := .fields #[.ref q, .ref s.heap.objs.size] }) rfl
  rw [Heap.size_push] at e
  exact ⟨_, e, rfl⟩

abbrev bmObj (S : Addr) : Obj := { cls := .type "builtin_function_or_method", data := .fields #[.builtin "set.__contains__", .ref S] }
theorem sub_set_module : isSubtype (.type "set") (.type "module") = pure false := by rw [isSubtype_type]; kernel_rfl
theorem sub_set_type : isSubtype (.type "set") (.type "type") = pure false := by rw [isSubtype_type]; kernel_rfl
theorem set_contains_body {S : Addr} {x : Str} {t : Tok} {f : Str → Bool} {c : Nat} {Q : PySem.Fin → Shared → Prop} (hS : s.heap.SetOf (strKind prog w) S f c) (hq : Q (.done (.ret (.bool (f x)))) { s with toks := s.toks + 1 }) :
    wpAny (model prog w) A (Builtin.«frozenset.__contains__» ⟨[.ref S, .str x t], []⟩) Q E s := by
  unfold Builtin.«frozenset.__contains__» Builtin.Frozenset.oneOther
  simp only [List.isEmpty_nil, bind_assoc]
  unfold Builtin.Frozenset.addrOf Builtin.Frozenset.withSetAsKey setContains
  refine wpAny_bind (wpAny_pure ?_)
  try dsimp only
  refine wpAny_bind (wpAny_pure ?_)
  try dsimp only
  refine wpAny_bind (wpAny_tryCatch ?_)
  refine wpAny_holding ?_
  refine wpAny_bind ((strKind prog w).pyHash (strKind_is x t) ?_)
  refine wpAny_bind (wpAny_setFind_of (s := { s with toks := s.toks + 1 }) (strKind_is x t) rfl hS fun r hr => ?_)
  refine wpAny_pure ?_
  show wpAny _ _ (ret (Value.bool r.isSome)) _ _ _
  rw [hr]
  exact wpAny_pure hq
theorem call_bound {q S : Addr} {x : Str} {t : Tok} {f : Str → Bool} {c : Nat} {R : Result → Shared → Prop} (hb : s.heap.get? q = some (bmObj S)) (hS : s.heap.SetOf (strKind prog w) S f c) (hq : R (.ok (.ret (.bool (f x)))) { s with toks := s.toks + 1 }) :
    codeAny (model prog w) A (.call (.ref q) ⟨[.str x t], []⟩) R s := by
  refine codeAny_of_tree ?_
  show wpAny _ A.in1 (callAny (.ref q) _) _ _ s
  unfold callAny
  refine wpAny_bind (wpAny_load hb ?_)
  dsimp only
  have hT := hS.typeIs
  obtain ⟨h, g, d, tk, os⟩ := s
  have f1 := sub_set_module
  have f2 := sub_set_type
  obtain ⟨o, es, ep, tb, ho, ⟨h1, h2, h3⟩, h4, _⟩ := id hS
  obtain ⟨oc, odd, oda, osl⟩ := o
  dsimp only at h1 h2 h3 h4 ho hq hS hT
  subst h1 h2 h3 h4
  have hc : ∀ v : Value, Bind.checkArgs "set.__contains__" ⟨.oneArg, "set.__contains__", "__contains__", .self, [⟨"object", .posOnly, true⟩]⟩ ⟨[.ref S, v], []⟩ = pure () := fun v => by kernel_rfl
  have key : ∀ (Q : Unit → Shared → Prop) (E : Value → Shared → Prop), Q () ⟨h, g, d, tk, os⟩ → wpAny (model prog w) A.in1 (checkBoundCall "set.__contains__" ⟨[.ref S, .str x t], []⟩) Q E ⟨h, g, d, tk, os⟩ := fun Q E hQ => by
    unfold checkBoundCall
    repeat (any_goals (first | assumption | wp_step))
  refine wpAny_bind (m := checkBoundCall "set.__contains__" ⟨[.ref S, .str x t], []⟩) (key _ _ ?_)
  refine wpAny_pure ⟨plainId_quiet (by decide +kernel) _, ?_⟩
  refine codeAny_builtin entry_set_contains ?_
  exact set_contains_body hS hq
end
end Mine
end

section
set_option maxRecDepth 100000
set_option maxHeartbeats 1000000
set_option autoImplicit false
set_option linter.unusedVariables false
open PySem PySem.W PyProof.Rows
namespace Mine
theorem slot_filter_next : Slot "filter" "__next__" "filter.__next__" :=
  Slot.of (owner := "filter") (n := "__next__") (by rw [typeLookup_type, builtinLookup_eq_fast]; kernel_rfl) (by decide +kernel) (by decide +kernel) (by decide +kernel) (.inl (by decide +kernel)) (by rw [isSubtype_type]; kernel_rfl)
theorem entry_filter_next : entryFor table "filter.__next__" = some Builtin.«filter.__next__» := entryFor_of_tree (by kernel_rfl)
theorem args_filter_next (a : Value) : argsOk "filter.__next__" ⟨[a], []⟩ := by unfold argsOk; kernel_rfl
theorem plain_filter_next : plainId "filter.__next__" = true := by decide +kernel
theorem slot_filter_iter : Slot "filter" "__iter__" "filter.__iter__" :=
  Slot.of (owner := "filter") (n := "__iter__") (by rw [typeLookup_type, builtinLookup_eq_fast]; kernel_rfl) (by decide +kernel) (by decide +kernel) (by decide +kernel) (.inl (by decide +kernel)) (by rw [isSubtype_type]; kernel_rfl)
theorem filter_nolen : typeLookup (.type "filter") "__len__" = pure none := by rw [typeLookup_type, builtinLookup_eq_fast]; kernel_rfl
theorem filter_nohint : typeLookup (.type "filter") "__length_hint__" = pure none := by rw [typeLookup_type, builtinLookup_eq_fast]; kernel_rfl
theorem entry_filter_iter : entryFor table "filter.__iter__" = some Builtin.«dict_keyiterator.__iter__» :=
  entryFor_alias (id' := "dict_keyiterator.__iter__") (by kernel_rfl) (by first | rfl | decide +kernel) (by decide +kernel) (by kernel_rfl)
theorem args_filter_iter (a : Value) : argsOk "filter.__iter__" ⟨[a], []⟩ := by unfold argsOk; kernel_rfl

section
variable {prog : Program} {w : World} {A : Around} {E : Value → Shared → Prop} {s : Shared}
/-- a list's iterator, asked by its slot -/
theorem li_next_item {it l : Addr} {i : Nat} {items : Array Value} {x : Value} {Q : Option Value → Shared → Prop} (hit : s.heap.IsListIter it l i) (hl : s.heap.IsList l items) (hx : items[i]? = some x)
    (hQ : ∀ h', h'.IsListIter it l (i + 1) → Heap.SameBut it s.heap h' → Q (some x) { s with heap := h' }) :
    wpAny (model prog w) A (callSpecial? (.ref it) "__next__") Q E s := by
  obtain ⟨o, ho, hc, hd⟩ := id hit
  obtain ⟨ol, hol, _, nl, hdl⟩ := hl
  refine wpAny_callSpecial?_slot (name := Str.ofString "__next__") hit.typeIs slot_listiter_next
    (wpAny_call_entry slot_listiter_next hit.typeIs entry_listiter_next ?_ (args_listiter_next _))
  show wpAny _ _ (field (.ref it) 0 >>= _) _ _ s
  refine wpAny_bind (wpAny_field ho hd (x := .ref l) rfl ?_)
  show wpAny _ _ (if (Value.ref l == Value.none) = true then _ else _) _ _ s
  rw [if_neg (show ¬ ((Value.ref l == Value.none) = true) from Bool.false_ne_true)]
  refine wpAny_bind (wpAny_field ho hd (x := .int i 0) rfl ?_)
  refine wpAny_bind (wpAny_seqItems hol hdl ?_)
  simp only [Int.toNat_natCast, hx]
  refine wpAny_bind (wpAny_setField ho hd (by simp) (wpAny_pure ⟨x, rfl, hQ _ ?_ (Heap.SameBut.update ..)⟩))
  exact ⟨_, Heap.get?_update_self _ ho (Obj.isFreed_of_fields (Obj.data_mapFields hd _)), (Obj.cls_mapFields ..).trans hc, by
    rw [Obj.data_mapFields hd]; simp [rawInt]⟩
theorem li_next_end {it l : Addr} {i : Nat} {items : Array Value} {Q : Option Value → Shared → Prop} (hh : A.handled = none) (hit : s.heap.IsListIter it l i) (hl : s.heap.IsList l items) (hx : items[i]? = none)
    (hQ : ∀ h' e, Heap.ExtBut it s.heap h' → ({ s with heap := h' } : Shared).TypeIs e "StopIteration" → E e { s with heap := h' }) : wpAny (model prog w) A (callSpecial? (.ref it) "__next__") Q E s := by
  obtain ⟨o, ho, hc, hd⟩ := id hit
  obtain ⟨ol, hol, _, nl, hdl⟩ := hl
  refine wpAny_callSpecial?_slot (name := Str.ofString "__next__") hit.typeIs slot_listiter_next
    (wpAny_call_entry slot_listiter_next hit.typeIs entry_listiter_next ?_ (args_listiter_next _))
  show wpAny _ _ (field (.ref it) 0 >>= _) _ _ s
  refine wpAny_bind (wpAny_field ho hd (x := .ref l) rfl ?_)
  show wpAny _ _ (if (Value.ref l == Value.none) = true then _ else _) _ _ s
  rw [if_neg (show ¬ ((Value.ref l == Value.none) = true) from Bool.false_ne_true)]
  refine wpAny_bind (wpAny_field ho hd (x := .int i 0) rfl ?_)
  refine wpAny_bind (wpAny_seqItems hol hdl ?_)
  simp only [Int.toNat_natCast, hx]
  refine wpAny_bind (wpAny_rule (wpAny_bind (wpAny_setField ho hd (by simp) ?_)))
  show wpAny _ _ (newExc (.type "StopIteration") [] >>= _) _ _ _
  refine wpAny_bind ?_
  simp only [newExc, newTuple]
  refine wpAny_bind (wpAny_newObj_type ?_ (by size_fits))
  refine wpAny_bind (m := firstArgMember _ _) (wpAny_of_eq (a := Value.none) (by first | rfl | (simp only [firstArgMember]; rfl)) ?_)
  refine wpAny_newObj_type ?_ (by size_fits)
  simp only [raiseNew]
  refine wpAny_bind (wpAny_handled ?_)
  rw [show A.in1.handled = none from hh]
  refine wpAny_bind (wpAny_pure (wpAny_throw ?_))
  exact hQ _ _ (((Heap.SameBut.update ..).extBut.push _).push _) ⟨_, Heap.get?_push_size _ rfl, rfl⟩

structure FilSt (prog : Program) (w : World) (S q it l Fa : Addr) (ps : List (Ag × Tok)) (f : Str → Bool) (c i : Nat) (h : Heap) : Prop where
  fo : h.get? Fa = some { cls := .type "filter", data := .fields #[.ref q, .ref it] }
  iter : h.IsListIter it l i
  lst : h.IsList l (ps.map sv).toArray
  bm : h.get? q = some (bmObj S)
  st : h.SetOf (strKind prog w) S f c
theorem FilSt.keep {S q it l Fa : Addr} {ps : List (Ag × Tok)} {f : Str → Bool} {c i : Nat} {h h' : Heap} (x : FilSt prog w S q it l Fa ps f c i h) (k : ∀ b ∈ [Fa, it, l, q, S], ∀ o, h.get? b = some o → h'.get? b = some o) : FilSt prog w S q it l Fa ps f c i h' :=
  ⟨k Fa (by simp) _ x.fo, let ⟨o, e, r⟩ := x.iter; ⟨o, k it (by simp) _ e, r⟩, let ⟨o, e, r⟩ := x.lst; ⟨o, k l (by simp) _ e, r⟩, k q (by simp) _ x.bm, setOf_keep x.st fun o e => k S (by simp) _ e⟩
theorem FilSt.ne {S q it l Fa : Addr} {ps : List (Ag × Tok)} {f : Str → Bool} {c i : Nat} {h : Heap} (x : FilSt prog w S q it l Fa ps f c i h) : Fa ≠ it ∧ l ≠ it ∧ q ≠ it ∧ S ≠ it := by
  obtain ⟨oi, ei, ci, di⟩ := x.iter
  refine ⟨fun e => ?_, fun e => ?_, fun e => ?_, fun e => ?_⟩
  · have := x.fo; rw [e, ei] at this; cases this; exact absurd (show Value.type "filter" = Value.type "list_iterator" from ci) (by decide)
  · obtain ⟨o, e1, e2, _⟩ := x.lst; rw [e, ei] at e1; cases e1; rw [ci] at e2; exact absurd e2 (by decide)
  · have := x.bm; rw [e, ei] at this; cases this; exact absurd (show Value.type "builtin_function_or_method" = Value.type "list_iterator" from ci) (by decide)
  · obtain ⟨o, es, ep, tb, e1, ⟨e2, _⟩, _⟩ := x.st; rw [e, ei] at e1; cases e1; rw [ci] at e2; exact absurd e2 (by decide)

theorem filter_next {S q it l Fa : Addr} {ps : List (Ag × Tok)} {f : Str → Bool} {c : Nat} {R : Result → Shared → Prop} (hh : A.handled = none) :
    ∀ (k i : Nat) (s : Shared), ps.length - i = k → FilSt prog w S q it l Fa ps f c i s.heap →
      (∀ i' p s', (ps.drop i).filter (fun p => f (nm p.1)) = p :: (ps.drop i').filter (fun p => f (nm p.1)) → FilSt prog w S q it l Fa ps f c i' s'.heap → Moved [it] (fun a b => b = a) s s' → R (.ok (.ret (sv p))) s') →
      ((ps.drop i).filter (fun p => f (nm p.1)) = [] → ∀ e s', s'.TypeIs e "StopIteration" → Moved [it] (fun a b => b = a) s s' → R (.error e) s') →
      codeAny (model prog w) A (.builtin "filter.__next__" ⟨[.ref Fa], []⟩) R s := by
  intro k
  induction k with
  | zero =>
    intro i s hk st hi he
    refine codeAny_builtin entry_filter_next ?_
    rw [Around.under_plainId plain_filter_next _]
    show wpAny _ A.in1 (field (.ref Fa) 0 >>= _) _ _ s
    refine wpAny_bind (wpAny_field st.fo rfl (x := .ref q) rfl ?_)
    refine wpAny_bind (wpAny_field st.fo rfl (x := .ref it) rfl ?_)
    refine wpAny_bind (li_next_end (by simp [hh]) st.iter st.lst (by simp; omega) fun h' e hx hT => ?_)
    refine he (by rw [List.drop_of_length_le (by omega)]; rfl) e _ hT ⟨fun b o hb q => hx b o (fun z => hb (by simp [z])) q, rfl, rfl, rfl, Nat.le_refl _⟩
  | succ k ih =>
    intro i s hk st hi he
    have hlt : i < ps.length := by omega
    refine codeAny_builtin entry_filter_next ?_
    rw [Around.under_plainId plain_filter_next _]
    show wpAny _ A.in1 (field (.ref Fa) 0 >>= _) _ _ s
    refine wpAny_bind (wpAny_field st.fo rfl (x := .ref q) rfl ?_)
    refine wpAny_bind (wpAny_field st.fo rfl (x := .ref it) rfl ?_)
    refine wpAny_bind (li_next_item (x := sv ps[i]) st.iter st.lst (by simp [hlt]) fun h' hit' hs => ?_)
    obtain ⟨n1, n2, n3, n4⟩ := st.ne
    have st' : FilSt prog w S q it l Fa ps f c (i + 1) h' := ⟨(hs.2 _ n1).trans st.fo, hit', st.lst.extBut hs.extBut n2, (hs.2 _ n3).trans st.bm, setOf_keep st.st fun o e => (hs.2 _ n4).trans e⟩
    have mv : Moved [it] (fun a b => b = a) s { s with heap := h' } := ⟨fun b o hb q => hs.extBut b o (fun z => hb (by simp [z])) q, rfl, rfl, rfl, Nat.le_refl _⟩
    have dr : ps.drop i = ps[i] :: ps.drop (i + 1) := (List.drop_eq_getElem_cons hlt)
    dsimp only
    refine wpAny_bind (wpAny_holding ?_)
    rw [if_neg (show ¬ ((Value.ref q == Value.none || Value.ref q == Value.type "bool") = true) from Bool.false_ne_true)]
    refine wpAny_bind (wpAny_call (call_bound st'.bm st'.st ?_))
    refine wpAny_holding (wpAny_truthy_bool ?_)
    cases hf : f (nm ps[i].1) with
    | true =>
      refine wpAny_pure (hi (i + 1) ps[i] _ (by rw [dr, List.filter_cons_of_pos (by exact hf)]) st' ?_)
      exact mv.then_heap (Nat.le_succ _) fun b o _ e => e
    | false =>
      have e1 : (ps.drop i).filter (fun p => f (nm p.1)) = (ps.drop (i + 1)).filter (fun p => f (nm p.1)) := by rw [dr, List.filter_cons_of_neg (by rw [hf]; decide)]
      have mv1 : Moved [it] (fun a b => b = a) s { s with heap := h', toks := s.toks + 1 } := mv.then_heap (Nat.le_succ _) fun b o _ e => e
      refine wpAny_pure ⟨plainId_quiet plain_filter_next _, ih (i + 1) _ (by omega) st' (fun i' p s' e st2 m2 => hi i' p s' (e1.trans e) st2 (mv1.trans (fun _ _ _ h1 h2 => h2.trans h1) m2)) fun e ev s' hT m2 => he (e1.trans e) ev s' hT (mv1.trans (fun _ _ _ h1 h2 => h2.trans h1) m2)⟩

theorem filter_walks {S q it l Fa : Addr} {ps : List (Ag × Tok)} {f : Str → Bool} {c : Nat} (hh : A.handled = none) :
    WalksS prog w A Fa [Fa, it, l, q, S] [it] (fun a b => b = a) (ps.filter (fun p => f (nm p.1))).length (fun j v => ∃ p, (ps.filter (fun p => f (nm p.1)))[j]? = some p ∧ v = sv p)
      (fun j s => ∃ i, FilSt prog w S q it l Fa ps f c i s.heap ∧ (ps.drop i).filter (fun p => f (nm p.1)) = (ps.filter (fun p => f (nm p.1))).drop j) where
  sub := fun b hb => by simp at hb; simp [hb]
  grefl := fun _ => rfl
  gtrans := fun _ _ _ h1 h2 => h2.trans h1
  frame := fun j s h' tk ⟨i, st, e⟩ _ k => ⟨i, st.keep k, e⟩
  item := fun j s Q E hj ⟨i, st, e⟩ hQ => by
    have hT : s.TypeIs (.ref Fa) "filter" := ⟨_, st.fo, rfl⟩
    unfold pyNext
    refine wpAny_bind (wpAny_attempt (wpAny_callSpecial?_slot (name := Str.ofString "__next__") hT slot_filter_next (wpAny_call (codeAny_call_builtin_code (plainId_quiet plain_filter_next _) (slot_filter_next.check _ _ _ _ _ _ _ _ hT (args_filter_next _) ?_)))))
    refine filter_next hh _ i s rfl st (fun i' p s' e' st' mv => ?_) fun e' _ _ _ _ => ?_
    · rw [e, List.drop_eq_getElem_cons hj] at e'
      injection e' with e1 e2
      exact wpAny_pure (hQ _ s' ⟨p, by rw [← e1]; simp [hj], rfl⟩ ⟨i', st', e2.symm⟩ mv)
    · rw [e, List.drop_eq_getElem_cons hj] at e'; cases e'
  done := fun s Q E ⟨i, st, e⟩ hQ => by
    have hT : s.TypeIs (.ref Fa) "filter" := ⟨_, st.fo, rfl⟩
    unfold pyNext
    refine wpAny_bind (wpAny_attempt (wpAny_callSpecial?_slot (name := Str.ofString "__next__") hT slot_filter_next (wpAny_call (codeAny_call_builtin_code (plainId_quiet plain_filter_next _) (slot_filter_next.check _ _ _ _ _ _ _ _ hT (args_filter_next _) ?_)))))
    refine filter_next hh _ i s rfl st (fun i' p s' e' st' mv => ?_) fun e' ev s' hT' mv => ?_
    · rw [e, List.drop_of_length_le (Nat.le_refl _)] at e'; cases e'
    · exact wpAny_bind (wpAny_isInstance (T := "StopIteration") (b := true) hT' isSubtype_stop (wpAny_pure (hQ s' mv)))
  self := fun j s Q E ⟨i, st, e⟩ hQ => by
    have hT : s.TypeIs (.ref Fa) "filter" := ⟨_, st.fo, rfl⟩
    refine wpAny_pyIter_slot hT slot_filter_iter (wpAny_call_entry slot_filter_iter hT entry_filter_iter ?_ (args_filter_iter _))
    exact wpAny_pure ⟨_, rfl, "filter", _, hT, slot_filter_next.lookup, hQ⟩

/-! list(filter(..)) -/
variable {I : Addr} {fp wr : List Addr} {G : Array GenState → Array GenState → Prop} {n : Nat} {P : Nat → Value → Prop} {St : Nat → Shared → Prop}
theorem extend_walk {R : Result → Shared → Prop} (W : WalksS prog w A.in1 I fp wr G n P St) (hT : ∀ i s, St i s → s.TypeIs (.ref I) "filter") (S : Addr) (c₀ : Nat) (hst : St 0 s) (hSf : S ∉ fp) (hI : I ∈ fp) (hS : s.heap.get? S = some (lo [] c₀))
    (hR : ∀ s' acc' c', Moved (S :: wr) G s s' → s'.heap.get? S = some { cls := .type "list", dict := none, data := .seq acc' c', slots := #[] } → ItemsOf P acc' n → R (.ok (.ret .none)) s') (hn : n ≤ sizeLine) :
    wpAny (model prog w) A.in1 (Builtin.List.listExtendWith (.ref S) (.ref I) .none)
      (fun fin s' => match fin with | .done f => R (.ok f) s' | .again c' => c'.quiet = true ∧ codeAny (model prog w) A c' R s') (fun e s' => R (.error e) s') s := by
  have hSI : S ≠ I := fun e => hSf (e ▸ hI)
  unfold Builtin.List.listExtendWith
  refine wpAny_bind (wpAny_typeOf (hT 0 _ hst) ?_)
  have h1 : Builtin.List.listSameRef (.ref S) (.ref I) = false := by simp [Builtin.List.listSameRef, hSI]
  have h2 : (Value.type "filter" == Value.type "list") = false := by decide
  have h3 : (Value.type "filter" == Value.type "tuple") = false := by decide
  simp only [h1, h2, h3, Bool.or_false, Bool.false_eq_true, if_false]
  refine wpAny_bind (W.self 0 _ _ _ hst ?_)
  refine wpAny_bind (wpAny_holding ?_)
  unfold Builtin.List.listLengthHint
  refine wpAny_bind (wpAny_specialOf (hT 0 _ hst) filter_nolen ?_)
  show wpAny _ A.in1 (specialOf (Value.ref I) (Str.ofString "__length_hint__") >>= _) _ _ _
  refine wpAny_bind (wpAny_specialOf (hT 0 _ hst) filter_nohint ?_)
  refine wpAny_pure ?_
  refine wpAny_bind (m := rule "list.extend.makes-room") (wpAny_rule ?_)
  refine wpAny_bind (m := Builtin.List.listTouch (.ref S)) ?_
  show wpAny _ A.in1 (updateSeq S (·.push .none) >>= fun _ => updateSeq S (·.pop)) _ _ _
  refine wpAny_bind (wpAny_updateSeq hS rfl ?_)
  have hS₂ := Heap.get?_update_self (Obj.mapSeq (·.push Value.none)) hS rfl
  refine wpAny_updateSeq (hz := by seq_fits) hS₂ rfl ?_
  have hS₃ := Heap.get?_update_self (Obj.mapSeq (·.pop)) hS₂ rfl
  have oth : ∀ b o, b ≠ S → s.heap.get? b = some o → ((s.heap.update S (Obj.mapSeq (·.push Value.none))).update S (Obj.mapSeq (·.pop))).get? b = some o :=
    fun b o hb e => (Heap.get?_update_other _ _ (Ne.symm hb)).trans ((Heap.get?_update_other _ _ (Ne.symm hb)).trans e)
  refine wpAny_pure ⟨plainId_quiet F.plain_extend_loop _, codeAny_extend_loopS W hn _ hSf _ n 0 _ _ _ rfl (Nat.zero_le _)
    (W.frame 0 s _ s.toks hst (Nat.le_refl _) fun b hb o e => oth b o (fun h => hSf (h ▸ hb)) e) hS₃ (ItemsOf.nil P) fun s' acc' c' hm hS' hacc => ?_⟩
  exact hR s' acc' c' (Moved.trans W.gtrans ((Moved.refl W.grefl).then_heap (Nat.le_refl _) fun b o hb e => oth b o (fun h => hb (h ▸ List.mem_cons_self)) e) hm) hS' hacc

theorem call_list_walk {Q : Value → Shared → Prop} (W : WalksS prog w A.in1.in1 I fp wr G n P St) (hT : ∀ i s, St i s → s.TypeIs (.ref I) "filter") (hst : St 0 s) (hfp : ∀ b ∈ fp, b < s.heap.objs.size) (hI : I ∈ fp)
    (hQ : ∀ s' acc' c', Moved (s.heap.objs.size :: wr) G { s with heap := s.heap.push { cls := .type "list", data := .seq #[] } } s' →
      s'.heap.get? s.heap.objs.size = some { cls := .type "list", dict := none, data := .seq acc' c', slots := #[] } → ItemsOf P acc' n → Q (.ref s.heap.objs.size) s') (hn : n ≤ sizeLine) :
    wpAny (model prog w) A (call (.type "list") [.ref I]) Q E s := by
  have hSf : s.heap.objs.size ∉ fp := fun hm => Nat.lt_irrefl _ (hfp _ hm)
  refine callType_codes (Q₁ := fun obj s₁ => obj = .ref s.heap.objs.size ∧ s₁ = { s with heap := s.heap.push { cls := .type "list", data := .seq #[] } }) F.called_list (F.typeCall_list_1 _) F.entry_list_init
    (code_list_new _ ⟨rfl, rfl⟩) fun obj s₁ h₁ => ?_
  obtain ⟨rfl, rfl⟩ := h₁
  have hS : (s.heap.push { cls := .type "list", data := .seq #[] }).get? s.heap.objs.size = some { cls := .type "list", data := .seq #[] } := Heap.get?_push_size _ rfl
  refine ⟨⟨_, hS, rfl⟩, F.args_list_init_2 _ _, ?_⟩
  show wpAny _ A.in1.in1 (do let old ← Builtin.List.listItems (.ref s.heap.objs.size); Builtin.List.listUpdate (.ref s.heap.objs.size) (fun _ => #[]); letGo old.toList.reverse; Builtin.List.listExtendWith (.ref s.heap.objs.size) (.ref I) .none) _ _ _
  refine wpAny_bind ?_
  unfold Builtin.List.listItems
  refine wpAny_bind (wpAny_seqItems hS rfl (wpAny_pure ?_))
  refine wpAny_bind (m := updateSeq s.heap.objs.size (fun _ => #[])) (wpAny_updateSeq hS rfl ?_)
  have hS₂ := Heap.get?_update_self (Obj.mapSeq (fun _ => (#[] : Array Value))) hS rfl
  have hst' := W.frame 0 s (s.heap.push { cls := .type "list", data := .seq #[] }) s.toks hst (Nat.le_refl _) fun b _ o e => Heap.get?_push_of_some _ e
  have oth : ∀ b o, b ≠ s.heap.objs.size → (s.heap.push { cls := .type "list", data := .seq #[] }).get? b = some o → ((s.heap.push { cls := .type "list", data := .seq #[] }).update s.heap.objs.size (Obj.mapSeq (fun _ => (#[] : Array Value)))).get? b = some o :=
    fun b o hb e => (Heap.get?_update_other _ _ (Ne.symm hb)).trans e
  refine wpAny_bind (wpAny_letGo ?_)
  refine extend_walk W hT _ _ (W.frame 0 { s with heap := s.heap.push { cls := .type "list", data := .seq #[] } } _ s.toks hst' (Nat.le_refl _) fun b hb o e => oth b o (fun h => hSf (h ▸ hb)) e) hSf hI hS₂ (fun s' acc' c' hm hS' hacc => ?_) hn
  exact ⟨rfl, hQ s' acc' c' (Moved.trans W.gtrans ((Moved.refl W.grefl).then_heap (Nat.le_refl _) fun b o hb e => oth b o (fun h => hb (h ▸ List.mem_cons_self)) e) hm) hS' hacc⟩
end
end Mine
end

section
set_option maxRecDepth 100000
set_option autoImplicit false
set_option linter.unusedVariables false
open PySem PySem.W PyProof.Rows
namespace Mine
section
variable {prog : Program} {w : World} {A : Around} {E : Value → Shared → Prop} {g₀ g : Heap} {s₀ s s' : Shared} {env : Env} {ro : List Str} {m : Str → Option Value} {own lent lent' : List (Addr × Obj)}

/-- some own objects change, all else stands -/
theorem FS.moved (F : FS g₀ s₀ env ro m (lent ++ own) g s) (same : ∃ h tk, s' = { s with heap := h, toks := tk }) (mv : ∀ b o, b ∉ lent.map (·.1) → s.heap.get? b = some o → s'.heap.get? b = some o)
    (hl : ∀ p ∈ lent', p.1 ∈ lent.map (·.1) ∧ s'.heap.get? p.1 = some p.2) (nd : (lent'.map (·.1)).Nodup) : FS g₀ s₀ env ro m (lent' ++ own) g s' := by
  have out : ∀ a ∈ lent.map (·.1), g.get? a = none := fun a ha => by
    obtain ⟨p, hp, rfl⟩ := List.mem_map.mp ha
    exact (F.mine p (List.mem_append_left _ hp)).2.2.1
  have keep : ∀ b o, (hideS lent s).heap.get? b = some o → s'.heap.get? b = some o := fun b o e => by
    rw [hideS_get] at e
    split at e
    · cases e
    · rename_i q; exact mv b o (fun z => q (List.contains_iff_mem.mpr z)) e
  refine F.back ⟨⟨?_, keep, Kp.refl _, fun b o e => mv b o (fun z => by rw [out b z] at e; cases e) (F.kp _ _ e), fun _ _ e => e⟩, fun p hp => ?_, nd⟩
  · obtain ⟨h, t, rfl⟩ := same; exact ⟨h, t, rfl⟩
  · obtain ⟨a, b⟩ := hl p hp
    exact ⟨b, by rw [hideS_get, if_pos (List.contains_iff_mem.mpr a)], out _ a⟩

theorem set_G {l : Addr} {ps : List (Ag × Tok)} {Q : Value → Shared → Prop} (hh : A.handled = none) (k : Kp g s.heap) (hl : LL s.heap l (ps.map sv)) (hb : ps.length ≤ 1000)
    (h : ∀ g' S s' f c, Grow g s g' s' → g'.SetOf (strKind prog w) S f c → (∀ x : Ag, f (nm x) = (ps.map (·.1)).contains x) → Q (.ref S) s') :
    wpAny (model prog w) A (call (.type "set") [.ref l]) Q E s := by
  refine call_set hh hl (by unfold scanBound; omega) fun h' tk c f hf hS hk => ?_
  obtain ⟨g', G, nw⟩ := grow_of (s' := { s with heap := h', toks := tk }) k ⟨h', tk, rfl, fun b o e => hk b o (Heap.lt_size e) e⟩
  refine h g' _ _ f c G (setOf_keep hS fun o e => nw _ _ ?_ e) hf
  cases q : s.heap.get? s.heap.objs.size with
  | none => rfl
  | some o => exact absurd (Heap.lt_size q) (Nat.lt_irrefl _)

theorem contains_G {S : Addr} {f : Str → Bool} {c : Nat} {ex : Bool} {Q : Value → Shared → Prop} (k : Kp g s.heap) (hS : s.heap.SetOf (strKind prog w) S f c)
    (h : ∀ g' q s', Grow g s g' s' → g'.get? q = some (bmObj S) → Q (.ref q) s') : wpAny (model prog w) A (getAttr (.ref S) (Str.ofString "__contains__") ex) Q E s := by
  obtain ⟨o, es, ep, tb, ho, ⟨h1, h2, h3⟩, h4, _⟩ := id hS
  obtain ⟨oc, odd, oda, osl⟩ := o
  dsimp only at h1 h2 h3 h4 ho
  subst h1 h2 h3 h4
  obtain ⟨hp, gs, d, t, os⟩ := s
  refine getAttr_contains ho ?_
  obtain ⟨g', G, e⟩ := grow_push (s := ⟨hp, gs, d, t, os⟩) k (bmObj S)
  exact h g' _ _ (G.trans (Grow.tok G.sub (t + 1))) e

theorem filter_F {l q : Addr} {vs : List Value} {Q : Value → Shared → Prop} (F : FS g₀ s₀ env ro m own g s) (hl : LL s.heap l vs)
    (h : ∀ Fa it s', FS g₀ s₀ env ro m ((Fa, { cls := .type "filter", data := .fields #[.ref q, .ref it] }) :: (it, { cls := .type "list_iterator", data := .fields #[.ref l, .int 0 0] }) :: own) g s' → Q (.ref Fa) s') :
    wpAny (model prog w) A (call (.type "filter") [.ref q, .ref l]) Q E s := by
  refine call_filter hl.isList (h (s.heap.objs.size + 1) s.heap.objs.size _ ?_)
  have F2 := (F.push { cls := .type "list_iterator", data := .fields #[.ref l, .int 0 0] }).push { cls := .type "filter", data := .fields #[.ref q, .ref s.heap.objs.size] }
  dsimp only at F2
  rw [Heap.size_push] at F2
  exact F2

theorem list_of_items {ps : List (Ag × Tok)} {acc : Array Value} {fl : Ag × Tok → Bool} (h : ItemsOf (fun j v => ∃ p, (ps.filter fl)[j]? = some p ∧ v = sv p) acc (ps.filter fl).length) : acc = ((ps.filter fl).map sv).toArray := by
  obtain ⟨h1, h2⟩ := h
  apply Array.ext'
  apply List.ext_getElem?
  intro j
  simp only [List.getElem?_map]
  by_cases hj : j < acc.size
  · obtain ⟨p, e1, e2⟩ := h2 j acc[j] (by simp [hj])
    rw [e1]; simp [hj, e2]
  · rw [List.getElem?_eq_none (by simpa using hj), List.getElem?_eq_none (by omega)]; rfl

theorem listFilter_F {S q l Fa it : Addr} {ps : List (Ag × Tok)} {f : Str → Bool} {c : Nat} {Q : Value → Shared → Prop} (hh : A.handled = none)
    (F : FS g₀ s₀ env ro m ((Fa, { cls := .type "filter", data := .fields #[.ref q, .ref it] }) :: (it, { cls := .type "list_iterator", data := .fields #[.ref l, .int 0 0] }) :: own) g s)
    (hl : LL s.heap l (ps.map sv)) (hS : s.heap.SetOf (strKind prog w) S f c) (hb : s.heap.get? q = some (bmObj S)) (hz : ps.length ≤ 1000)
    (h : ∀ D n s', FS g₀ s₀ env ro m ((D, lo ((ps.filter fun p => f (nm p.1)).map sv) n) :: own) g s' → Q (.ref D) s') :
    wpAny (model prog w) A (call (.type "list") [.ref Fa]) Q E s := by
  have st : FilSt prog w S q it l Fa ps f c 0 s.heap := ⟨F.ownGet (.head _), ⟨_, F.ownGet (.tail _ (.head _)), rfl, rfl⟩, hl.isList, hb, hS⟩
  refine call_list_walk (filter_walks (S := S) (q := q) (it := it) (l := l) (Fa := Fa) (ps := ps) (f := f) (c := c) (by simp [hh])) (fun i s ⟨i', st, _⟩ => ⟨_, st.fo, rfl⟩) ⟨0, st, rfl⟩ (fun b hb => ?_) (by simp) (fun s' acc' c' hm hD hacc => ?_) ?_
  · simp only [List.mem_cons, List.not_mem_nil, or_false] at hb
    obtain ⟨_, ei, _⟩ := st.iter
    obtain ⟨_, el, _⟩ := st.lst
    obtain ⟨_, _, _, _, es, _⟩ := st.st
    rcases hb with rfl | rfl | rfl | rfl | rfl
    · exact Heap.lt_size st.fo
    · exact Heap.lt_size ei
    · exact Heap.lt_size el
    · exact Heap.lt_size st.bm
    · exact Heap.lt_size es
  · rw [list_of_items hacc] at hD
    have F1 := F.push { cls := .type "list", data := .seq #[] }
    have F2 : FS g₀ s₀ env ro m ([(s.heap.objs.size, { cls := .type "list", data := .seq #[] }), (it, { cls := .type "list_iterator", data := .fields #[.ref l, .int 0 0] })] ++ own) g { s with heap := s.heap.push { cls := .type "list", data := .seq #[] } } :=
      F1.less (fun p hp => by simp only [List.cons_append, List.nil_append, List.mem_cons] at hp ⊢; rcases hp with h | h | h <;> simp [h]) (by
        have nd := F1.ownNd
        simp only [List.cons_append, List.nil_append, List.map_cons, List.nodup_cons, List.mem_cons, not_or] at nd ⊢
        exact ⟨nd.1.2, nd.2.2⟩)
    obtain ⟨h', g', d', t', os'⟩ := s'
    have eg : g' = s.gens := hm.gens
    have ed : d' = s.drawn := hm.drawn
    have eo : os' = s.os := hm.os
    subst eg ed eo
    refine h _ c' _ (FS.moved (lent' := [(s.heap.objs.size, lo ((ps.filter fun p : Ag × Tok => f (nm p.1)).map sv) c')]) F2 ⟨h', t', rfl⟩ (fun b o hb e => hm.heap b o (by simpa using hb) e) (fun p hp => ?_) (by simp))
    simp only [List.mem_cons, List.not_mem_nil, or_false] at hp
    subst hp
    exact ⟨by simp, hD⟩
  · have := List.length_filter_le (fun p : Ag × Tok => f (nm p.1)) ps
    rw [sizeLine_eq]; omega
end
end Mine
end

section
set_option maxRecDepth 100000
set_option autoImplicit false
set_option linter.unusedVariables false
open PySem PySem.W PyProof.Rows
namespace Mine
local macro_rules | `(tactic| walk_at "body") => `(tactic| (unfold bodyAt; conv => (arg 3; arg 1; whnf)))
local macro_rules | `(tactic| walk_at "bind") => `(tactic| (refine BindsTo.of_eq ?_; unfold fdAt; (conv => lhs; arg 1; whnf); rfl))
section
variable {prog : Program} {w : World} {A : Around} {E : Value → Shared → Prop} {g₀ g : Heap} {s₀ s s' : Shared} {env : Env} {ro : List Str} {m : Str → Option Value} {own lent lent' : List (Addr × Obj)}

/-- an attribute of an entry of the ghost heap, by a name of the frame -/
theorem entAttr {x name : Str} {xp pos : Pos} {e dx : Addr} {od : Obj} {md : Str → Option Value} {k : Nat} {v : Value} {Q : Value → Shared → Prop} (F : FS g₀ s₀ env ro m own g s) (L : Ld w g) (hk : env.scope.kind = .function) (hx : env.kindOf x = some .local ∨ env.kindOf x = some .cell)
    (hv : m x = some (.ref e)) (h1 : g.get? e = some (instObj 73 dx)) (h2 : g.get? dx = some od) (D : Dz md k od) (hl : md name = some v)
    (h : ∀ s', FS g₀ s₀ env ro m own g s' → s'.heap = s.heap → Q v s')
    (he : eval (.Attribute (.Name x xp) name pos) env = (do
      let o ← eval (.Name x xp) env
      standAt pos.atName
      let r ← holding [o] (getAttr o name true)
      letTemporaryGo (.Name x xp) o r
      pure r) := by with_unfolding_all rfl)
    (hg : plainGet (KF w) 73 name = true := by rfl) (ha : findIn (KF w) (.ref 73) name = some none := by rfl) (hh : handedIn v = true := by rfl) (hd : (x == ("__debug__" : Str)) = false := by decide) :
    wpAny (model prog w) A (eval (.Attribute (.Name x xp) name pos) env) Q E s :=
  Attribute_Name_ (nmF F hk hx hv (getAttr_I (L.X.keeps F.kp) (F.kp _ _ h1) (F.kp _ _ h2) D hl (fun t => h _ (F.tok t) rfl) hg ha hh) hd) he

theorem merge_ok {e1 e2 : Addr} {xs ys : List Ag} {Q : Value → Shared → Prop} (L : Ld w g) (k : Kp g s.heap) (rm : Rm 8 A) (h1 : IsEnt g e1 xs) (h2 : IsEnt g e2 ys) (hx : xs.length ≤ 1000) (hy : ys.length ≤ 1000)
    (h : ∀ g' s' e, Grow g s g' s' → IsEnt g' e (xs.filter fun x => ys.contains x) → Q (.ref e) s') : wpAny (model prog w) A (call (.ref 84) [.ref e1, .ref e2]) Q E s := by
  obtain ⟨dx1, od1, md1, k1, la1, lb1, a1, a2, a3, a4, a5, a6⟩ := h1
  obtain ⟨dx2, od2, md2, k2, la2, lb2, b1, b2, b3, b4, b5, b6⟩ := h2
  obtain ⟨ps, rfl, a5⟩ := a5
  obtain ⟨qs, rfl, b5⟩ := b5
  refine wpAny_call ?_
  refine call_at 84 (binds := [(Str.ofString "e1", .ref e1), (Str.ofString "e2", .ref e2)]) [] L k (fun _ h => nomatch h) List.nodup_nil rm.room rfl rfl rfl (by walk_at "bind") rfl rfl rfl rfl rfl fun s₁ F => ?_
  walk_at "body"
  have rm1 : Rm 7 (A.deeper (envAt w 84 s.heap.objs.size)) := rm.deeper
  refine wpAny_execs_cons (wpAny_Assign_Name (callG0 (L.mono F.kp) rfl rfl rfl rfl rfl (newEntry F L (rm1.less (by omega)) fun x dx od md l1 l2 s₂ F D e => ?_)) rfl)
  refine stF F rfl (.inl rfl) fun s₃ F => ?_
  -- entry.useragents = ..
  refine wpAny_execs_cons (plainObj_wpAny_Assign_Attribute ?_ rfl)
  refine callT (L.mono F.kp) rfl rfl rfl rfl rfl Boot.list (spliced_more ?_)
  refine callT (L.mono F.kp) rfl rfl rfl rfl rfl Boot.filter (spliced_more ?_)
  refine Attribute_any_ ?_
  refine callT (L.mono F.kp) rfl rfl rfl rfl rfl Boot.set (spliced_more ?_)
  refine entAttr F L rfl (.inl rfl) rfl b1 b2 b3 b4.ua fun s₄ F _ => spliced_none ?_
  refine set_G rm1.hh F.kp (b5.mono F.kp) (by simpa using hy) fun g1 S s₅ f c G hS hf => ?_
  have F := F.on G
  refine contains_G F.kp (setOf_keep hS fun o e => F.kp _ _ e) fun g2 q s₆ G2 hq => ?_
  have F := F.on G2
  have kg := G.gg.trans G2.gg
  refine spliced_more (entAttr F (L.mono kg) rfl (.inl rfl) rfl (kg _ _ a1) (kg _ _ a2) a3 a4.ua fun s₇ F _ => spliced_none ?_)
  refine filter_F F ((a5.mono kg).mono F.kp) fun Fa it s₈ F => spliced_none ?_
  refine listFilter_F rm1.hh F ((a5.mono kg).mono F.kp) (setOf_keep hS fun o e => F.kp _ _ (G2.gg _ _ e)) (F.kp _ _ hq) (by simpa using hx) fun Dl n s₉ F => ?_
  refine nmF F rfl (.inl rfl) rfl ?_
  refine setAttr_I (L.X.keeps (kg.trans F.kp)) (F.ownGet (.tail _ (.head _))) (F.ownGet (.tail _ (.tail _ (.head _)))) D (by decide) rfl fun h' od' tk hs ho D1 => ?_
  have F : FS g (hideS [] s) (envAt w 84 s.heap.objs.size) [] _ [(dx, od), (x, instObj 73 dx), (Dl, lo ((ps.filter fun p : Ag × Tok => f (nm p.1)).map sv) n)] g2 _ := F.less (fun p hp => by
    simp only [List.mem_cons, List.not_mem_nil, or_false] at hp ⊢
    rcases hp with h | h | h <;> simp [h]) (by
    have nd := F.ownNd
    simp only [List.map_cons, List.map_nil, List.nodup_cons, List.mem_cons, List.not_mem_nil, or_false, not_or, not_false_eq_true, List.nodup_nil, and_true] at nd ⊢
    simp only [eq_comm] at nd ⊢
    simp [nd])
  have F := F.upd (tk := tk) hs.extBut ho
  -- entry.rulelines = ..
  refine wpAny_execs_cons (plainObj_wpAny_Assign_Attribute (wpAny_BinOp ?_) rfl)
  refine entAttr F (L.mono kg) rfl (.inl rfl) rfl (kg _ _ a1) (kg _ _ a2) a3 a4.rl fun s₁₀ F _ => ?_
  refine entAttr F (L.mono kg) rfl (.inl rfl) rfl (kg _ _ b1) (kg _ _ b2) b3 b4.rl fun s₁₁ F _ => ?_
  refine add_G F.kp ((a6.mono kg).mono F.kp) ((b6.mono kg).mono F.kp) fun g3 lr s₁₂ G3 hlr => ?_
  have F := F.on G3
  have kg := kg.trans G3.gg
  refine nmF F rfl (.inl rfl) rfl ?_
  refine setAttr_I (L.X.keeps (kg.trans F.kp)) (F.ownGet (.tail _ (.head _))) (F.ownGet (.head _)) D1 (by decide) rfl fun h' od2' tk hs ho D2 => ?_
  have F := F.upd (tk := tk) hs.extBut ho
  -- entry.delay = ..
  refine wpAny_execs_cons (plainObj_wpAny_Assign_Attribute ?_ rfl)
  refine IfExp_ (wpAny_isTrue_Compare1 (entAttr F (L.mono kg) rfl (.inl rfl) rfl (kg _ _ b1) (kg _ _ b2) b3 b4.dl fun s₁₃ F _ => cNone (wpAny_is_self rfl (wpAny_truthy_bool ?_))))
  refine entAttr F (L.mono kg) rfl (.inl rfl) rfl (kg _ _ a1) (kg _ _ a2) a3 a4.dl fun s₁₄ F _ => ?_
  refine nmF F rfl (.inl rfl) rfl ?_
  refine setAttr_I (L.X.keeps (kg.trans F.kp)) (F.ownGet (.tail _ (.head _))) (F.ownGet (.head _)) D2 (by decide) rfl fun h' od3' tk hs ho D3 => ?_
  have F := F.upd (tk := tk) hs.extBut ho
  -- entry.req_rate = ..
  refine wpAny_execs_cons (plainObj_wpAny_Assign_Attribute ?_ rfl)
  refine IfExp_ (wpAny_isTrue_Compare1 (entAttr F (L.mono kg) rfl (.inl rfl) rfl (kg _ _ b1) (kg _ _ b2) b3 b4.rr fun s₁₅ F _ => cNone (wpAny_is_self rfl (wpAny_truthy_bool ?_))))
  refine entAttr F (L.mono kg) rfl (.inl rfl) rfl (kg _ _ a1) (kg _ _ a2) a3 a4.rr fun s₁₆ F _ => ?_
  refine nmF F rfl (.inl rfl) rfl ?_
  refine setAttr_I (L.X.keeps (kg.trans F.kp)) (F.ownGet (.tail _ (.head _))) (F.ownGet (.head _)) D3 (by decide) rfl fun h' od4' tk hs ho D4 => ?_
  have F := F.upd (tk := tk) hs.extBut ho
  refine wpAny_execs_cons (wpAny_Return_some (nmF F rfl (.inl rfl) rfl ?_))
  obtain ⟨g4, F, k4, e4⟩ := F.freeze
  obtain ⟨g5, F, k5, e5⟩ := F.freeze
  obtain ⟨g6, F, k6, e6⟩ := F.freeze
  refine h g6 _ x F.ret.toGrow ⟨dx, od4', _, _, Dl, lr, k6 _ _ e5, k6 _ _ (k5 _ _ e4), D4, ⟨rfl, rfl, rfl, rfl⟩, ⟨ps.filter fun p : Ag × Tok => f (nm p.1), ?_, n, e6⟩, hlr.mono (k4.trans (k5.trans k6))⟩
  rw [List.filter_map]
  congr 1
  apply List.filter_congr
  intro p _
  exact hf p.1
end
end Mine
end

section
set_option maxRecDepth 100000
set_option autoImplicit false
set_option linter.unusedVariables false
open PySem PySem.W PyProof.Rows
namespace Mine

/-! iterators -/
structure Itr (prog : Program) (w : World) (A : Around) (g : Heap) (I : Addr) (n : Nat) (P : Nat → Value → Prop) (Ob : Nat → Obj → Prop) : Prop where
  item : ∀ k o (s : Shared) (Q : Option Value → Shared → Prop) (E : Value → Shared → Prop), k < n → Ob k o → Kp g s.heap → s.heap.get? I = some o →
    (∀ v o' h' tk, P k v → Ob (k + 1) o' → h'.get? I = some o' → Heap.ExtBut I s.heap h' → Q (some v) { s with heap := h', toks := tk }) → wpAny (model prog w) A (pyNext (.ref I)) Q E s
  done : ∀ o (s : Shared) (Q : Option Value → Shared → Prop) (E : Value → Shared → Prop), Ob n o → Kp g s.heap → s.heap.get? I = some o →
    (∀ h' tk, Heap.ExtBut I s.heap h' → Q none { s with heap := h', toks := tk }) → wpAny (model prog w) A (pyNext (.ref I)) Q E s
  self : ∀ k o (s : Shared) (Q : Value → Shared → Prop) (E : Value → Shared → Prop), Ob k o → s.heap.get? I = some o → Q (.ref I) s → wpAny (model prog w) A (pyIter (.ref I)) Q E s
theorem Itr.mono {prog : Program} {w : World} {A : Around} {g g' : Heap} {I : Addr} {n : Nat} {P : Nat → Value → Prop} {Ob : Nat → Obj → Prop} (W : Itr prog w A g I n P Ob) (k : Kp g g') : Itr prog w A g' I n P Ob :=
  ⟨fun i o s Q E hi ho hk => W.item i o s Q E hi ho (k.trans hk), fun o s Q E ho hk => W.done o s Q E ho (k.trans hk), W.self⟩

def liOb (l : Addr) (k : Nat) (o : Obj) : Prop := o.cls = .type "list_iterator" ∧ o.data = .fields #[.ref l, .int k 0]
theorem Itr.list {prog : Program} {w : World} {A : Around} {g : Heap} {I l : Addr} {vs : List Value} (hh : A.handled = none) (hl : LL g l vs) : Itr prog w A g I vs.length (fun k v => vs[k]? = some v) (liOb l) where
  item := fun k o s Q E hk ho hg he hQ => by
    refine wpAny_pyNext_list_item (l := l) (i := k) (items := vs.toArray) (x := vs[k]) ⟨o, he, ho.1, ho.2⟩ (hl.mono hg).isList (by simp [hk]) fun h' hit' hs => ?_
    obtain ⟨o', e', c', d'⟩ := hit'
    exact hQ _ o' h' s.toks (by simp [hk]) ⟨c', d'⟩ e' hs.extBut
  done := fun o s Q E ho hg he hQ => wpAny_pyNext_list_end hh ⟨o, he, ho.1, ho.2⟩ (hl.mono hg).isList (by simp) fun h' hx => hQ h' s.toks hx
  self := fun k o s Q E ho he hQ => wpAny_pyIter_listiter (l := l) (i := k) ⟨o, he, ho.1, ho.2⟩ hQ

def riOb (a : Int) (n : Nat) (k : Nat) (o : Obj) : Prop := o = { cls := .type "range_iterator", data := .fields #[rawInt (a + k), rawInt ((n : Int) - k), rawInt 1] }
theorem Itr.range {prog : Program} {w : World} {A : Around} {g : Heap} {I : Addr} {a : Int} {n : Nat} (hh : A.handled = none) : Itr prog w A g I n (fun k v => ∃ t, v = .int (a + k) t) (riOb a n) where
  item := fun k o s Q E hk ho hg he hQ => by
    have ho : o = _ := ho
    subst ho
    refine wpAny_pyNext_range_item (x := a + k) (left := n - k) (step := 1) he (by omega) fun h' hit' hs => ?_
    refine hQ _ _ h' _ ⟨_, rfl⟩ ?_ hit' hs.extBut
    show _ = _
    congr 4
    · show rawInt _ = rawInt _; congr 1; omega
    · show rawInt _ :: _ = rawInt _ :: _; congr 2; omega
  done := fun o s Q E ho hg he hQ => by
    have ho : o = _ := ho
    subst ho
    exact wpAny_pyNext_range_end hh (x := a + n) (left := n - n) (step := 1) he (by omega) fun h' hx => hQ h' s.toks hx
  self := fun k o s Q E ho he hQ => by
    have ho : o = _ := ho
    subst ho
    exact wpAny_pyIter_rangeiter (x := a + k) (left := n - k) (step := 1) he hQ
end Mine
end

section
set_option maxRecDepth 100000
set_option autoImplicit false
set_option linter.unusedVariables false
open PySem PySem.W PyProof.Rows
namespace Mine

def clOf (cells : List (Str × Addr)) : List (Str × NameKind) → List (Str × Addr) → List (Str × Addr)
  | [], acc => acc
  | (n, k) :: r, acc => if k == .free then clOf cells r ((n, (cells.lookup n).getD 0) :: acc) else clOf cells r acc
theorem closureFor_clOf {scope : Scope} {env : Env} (h : (scope.names.all fun x => x.2 != .free || (env.cells.lookup x.1).isSome) = true) : closureFor scope env = pure (clOf env.cells scope.names []) := by
  have key : ∀ (names : List (Str × NameKind)) (acc : List (Str × Addr)), (names.all fun x => x.2 != .free || (env.cells.lookup x.1).isSome) = true →
      (forIn names acc fun (x : Str × NameKind) (r : List (Str × Addr)) => if (x.2 == .free) = true then (do let c ← cellOf env x.1; pure (ForInStep.yield ((x.1, c) :: r))) else pure (ForInStep.yield r)) = (pure (clOf env.cells names acc) : Sem _) := by
    intro names
    induction names with
    | nil => intro acc _; rfl
    | cons x r ih =>
      intro acc hx
      obtain ⟨n, k⟩ := x
      rw [List.all_cons, Bool.and_eq_true] at hx
      rw [List.forIn_cons]
      unfold clOf
      by_cases hk : (k == NameKind.free) = true
      · have hs : (env.cells.lookup n).isSome = true := by
          have := hx.1
          simp only [bne, hk, Bool.not_true, Bool.false_or] at this
          exact this
        obtain ⟨c, hc⟩ := Option.isSome_iff_exists.mp hs
        simp only [hk, if_true, cellOf, hc, Option.getD_some, pure_bind]
        exact ih _ hx.2
      · simp only [hk, if_false, pure_bind, Bool.false_eq_true]
        exact ih _ hx.2
  simp only [closureFor]
  rw [key scope.names [] h]
  rfl

theorem clOf_mem (cells : List (Str × Addr)) : ∀ (names : List (Str × NameKind)) (acc : List (Str × Addr)) (n : Str) (c : Addr), (n, c) ∈ clOf cells names acc → (n, c) ∈ acc ∨ ((n, NameKind.free) ∈ names ∧ c = (cells.lookup n).getD 0)
  | [], _, _, _, h => .inl h
  | (n', k) :: r, acc, n, c, h => by
    unfold clOf at h
    split at h
    · rename_i hk
      rcases clOf_mem cells r _ n c h with h | h
      · rcases List.mem_cons.mp h with e | h
        · cases e; exact .inr ⟨by rw [beq_iff_eq.mp hk]; exact .head _, rfl⟩
        · exact .inl h
      · exact .inr ⟨.tail _ h.1, h.2⟩
    · rcases clOf_mem cells r _ n c h with h | h
      · exact .inl h
      · exact .inr ⟨.tail _ h.1, h.2⟩
theorem clOf_has (cells : List (Str × Addr)) : ∀ (names : List (Str × NameKind)) (acc : List (Str × Addr)) (n : Str), (n, NameKind.free) ∈ names ∨ (acc.lookup n).isSome = true → ((clOf cells names acc).lookup n).isSome = true
  | [], _, _, h => by rcases h with h | h; cases h; exact h
  | (n', k) :: r, acc, n, h => by
    unfold clOf
    split
    · refine clOf_has cells r _ n ?_
      by_cases e : n = n'
      · subst e; exact .inr (by simp [List.lookup_cons])
      · rcases h with h | h
        · rcases List.mem_cons.mp h with q | h
          · cases q; exact absurd rfl e
          · exact .inl h
        · exact .inr (by rw [List.lookup_cons, beq_eq_false_iff_ne.mpr e]; exact h)
    · rename_i hk
      refine clOf_has cells r _ n ?_
      rcases h with h | h
      · rcases List.mem_cons.mp h with q | h
        · cases q; exact absurd rfl hk
        · exact .inl h
      · exact .inr h

theorem cellsFrom_app : ∀ (names : List (Str × NameKind)) (n : Nat) (acc : List (Str × Addr)), cellsFrom n names acc = cellsFrom n names [] ++ acc
  | [], _, _ => rfl
  | (x, k) :: r, n, acc => by
    unfold cellsFrom
    split
    · rw [cellsFrom_app r (n + 1) ((x, n) :: acc), cellsFrom_app r (n + 1) [(x, n)], List.append_assoc]; rfl
    · exact cellsFrom_app r n acc
theorem cellsFrom_mem : ∀ (names : List (Str × NameKind)) (n : Nat) (acc : List (Str × Addr)) (x : Str) (c : Addr), (x, c) ∈ cellsFrom n names acc → (x, c) ∈ acc ∨ (x, NameKind.cell) ∈ names
  | [], _, _, _, _, h => .inl h
  | (y, k) :: r, n, acc, x, c, h => by
    unfold cellsFrom at h
    split at h
    · rename_i hk
      rcases cellsFrom_mem r _ _ x c h with h | h
      · rcases List.mem_cons.mp h with e | h
        · cases e; exact .inr (by rw [beq_iff_eq.mp hk]; exact .head _)
        · exact .inl h
      · exact .inr (.tail _ h)
    · rcases cellsFrom_mem r _ _ x c h with h | h
      · exact .inl h
      · exact .inr (.tail _ h)

theorem lookup_mem_nodup {α : Type} : ∀ {l : List (Str × α)} {n : Str} {c : α}, (l.map (·.1)).Nodup → (n, c) ∈ l → l.lookup n = some c
  | (k, v) :: r, n, c, hn, h => by
    rw [List.map_cons, List.nodup_cons] at hn
    rw [List.lookup_cons]
    rcases List.mem_cons.mp h with e | h
    · cases e; simp
    · have : n ≠ k := fun e => hn.1 (e ▸ List.mem_map.mpr ⟨_, h, rfl⟩)
      rw [beq_eq_false_iff_ne.mpr this]
      exact lookup_mem_nodup hn.2 h

theorem relabel_lookup (env : Env) (n : Str) : ∀ names : List (Str × NameKind), (names.map fun (x : Str × NameKind) => match x with | (n, k) => if (k == NameKind.free && env.scope.kind == .function && env.kindOf n == some .cell) then (n, NameKind.cell) else (n, k)).lookup n =
    (names.lookup n).map fun k => if (k == NameKind.free && env.scope.kind == .function && env.kindOf n == some .cell) then NameKind.cell else k
  | [] => rfl
  | (x, k) :: r => by
    rw [List.map_cons]
    dsimp only
    have ih := relabel_lookup env n r
    by_cases e : n = x
    · subst e
      by_cases hb : (k == NameKind.free && env.scope.kind == .function && env.kindOf n == some .cell) = true
      · rw [if_pos hb, List.lookup_cons, List.lookup_cons, beq_self_eq_true]
        exact congrArg some (if_pos hb).symm
      · rw [if_neg hb, List.lookup_cons, List.lookup_cons, beq_self_eq_true]
        exact congrArg some (if_neg hb).symm
    · by_cases hb : (k == NameKind.free && env.scope.kind == .function && env.kindOf x == some .cell) = true
      · rw [if_pos hb, List.lookup_cons, List.lookup_cons, beq_eq_false_iff_ne.mpr e]; exact ih
      · rw [if_neg hb, List.lookup_cons, List.lookup_cons, beq_eq_false_iff_ne.mpr e]; exact ih

section
variable {M : Model} {A : Around} {E : Value → Shared → Prop} {s : Shared} {env : Env}
theorem newEnv_comp {scope : Scope} {cl : List (Str × Addr)} {Q : Env → Shared → Prop}
    (hQ : Q { scope := scope, locals := s.heap.objs.size, globals := env.globals, cells := cellsFrom (s.heap.objs.size + 1) scope.names cl, qual := env.qual, func := none, code := env.code, frame := env.frame, builtins := env.builtins }
      { s with heap := pushCells (s.heap.push { cls := .type "dict", data := .dict #[] }) scope.names }) :
    wpAny M A (newFunctionEnv scope env.globals cl [] env.qual none .none (some env)) Q E s := by
  simp only [newFunctionEnv, Option.isSome_some, if_true]
  refine wpAny_bind (wpAny_alloc ?_)
  refine wpAny_bind (wpAny_layCells _ (fun name kind cells => by cases hkc : kind == NameKind.cell <;> simp [hkc]) _ _ _ _ ?_)
  rw [show ({ s with heap := s.heap.push { cls := .type "dict", data := .dict #[] } } : Shared).heap.objs.size = s.heap.objs.size + 1 from Heap.size_push ..]
  refine wpAny_bind ?_
  rw [List.forIn_nil]
  exact wpAny_pure (wpAny_pure hQ)
end

/-- the frame of a comprehension -/
noncomputable def cEnv (scope : Scope) (C : Addr) (env : Env) : Env := compEnvC scope (cellsFrom (C + 1) scope.names (clOf env.cells scope.names [])) C env
def cMap (scope : Scope) (m : Str → Option Value) : Str → Option Value := fun n => if scope.names.lookup n = some .free then m n else none
def cRo (scope : Scope) : List Str := (scope.names.filter fun x => x.2 == .free).map (·.1)

theorem FS.comp {g₀ g : Heap} {s₀ sb s₁ : Shared} {env : Env} {ro : List Str} {m : Str → Option Value} {own mineo : List (Addr × Obj)} {scope : Scope} (F : FS g₀ s₀ env ro m own g sb) (hk : env.scope.kind = .function) (hnd : (scope.names.map (·.1)).Nodup)
    (hfree : (scope.names.all fun x => x.2 != .free || (env.cells.lookup x.1).isSome) = true) (G : Grow g sb g s₁)
    (hm : ∀ p ∈ mineo, s₁.heap.get? p.1 = some p.2 ∧ sb.heap.get? p.1 = none ∧ g.get? p.1 = none) (hmn : (mineo.map (·.1)).Nodup) :
    FS g sb (cEnv scope s₁.heap.objs.size env) (cRo scope) (cMap scope m) mineo g { s₁ with heap := pushCells (s₁.heap.push { cls := .type "dict", data := .dict #[] }) scope.names } := by
  have kp1 : Kp s₁.heap (pushCells (s₁.heap.push { cls := .type "dict", data := .dict #[] }) scope.names) := fun b o e => pushCells_keeps _ _ b o (Heap.get?_push_of_some _ e)
  have none_of : ∀ h : Heap, Kp h s₁.heap → ∀ a, s₁.heap.objs.size ≤ a → h.get? a = none := fun h k a ha => by
    cases q : h.get? a with
    | none => rfl
    | some o => exact absurd (Heap.lt_size (k _ _ q)) (Nat.not_lt.mpr ha)
  have ok := cellsFrom_ok scope.names (s₁.heap.push { cls := .type "dict", data := .dict #[] }) (s₁.heap.objs.size + 1) [] ⟨fun _ _ hm => (nomatch hm), List.Pairwise.nil⟩ (by rw [Heap.size_push]; exact Nat.le_refl _)
  rw [Heap.size_push] at ok
  have ecs : (cEnv scope s₁.heap.objs.size env).cells = cellsFrom (s₁.heap.objs.size + 1) scope.names [] ++ clOf env.cells scope.names [] := cellsFrom_app _ _ _
  have eL : (cEnv scope s₁.heap.objs.size env).locals = s₁.heap.objs.size := rfl
  -- what a name's cell is
  have cas : ∀ n c, (cEnv scope s₁.heap.objs.size env).cells.lookup n = some c →
      ((n, c) ∈ cellsFrom (s₁.heap.objs.size + 1) scope.names [] ∧ scope.names.lookup n = some .cell) ∨ (env.cells.lookup n = some c ∧ scope.names.lookup n = some .free) := fun n c e => by
    rw [ecs] at e
    rcases List.mem_append.mp (mem_of_lookup e) with h | h
    · rcases cellsFrom_mem _ _ _ _ _ h with q | q
      · cases q
      · exact .inl ⟨h, lookup_mem_nodup hnd q⟩
    · rcases clOf_mem _ _ _ _ _ h with q | ⟨q, ec⟩
      · cases q
      · have := List.all_eq_true.mp hfree _ q
        simp only [bne_self_eq_false, Bool.false_or] at this
        obtain ⟨c', hc'⟩ := Option.isSome_iff_exists.mp this
        rw [hc'] at ec
        subst ec
        exact .inr ⟨hc', lookup_mem_nodup hnd q⟩
  have newc : ∀ n c, (n, c) ∈ cellsFrom (s₁.heap.objs.size + 1) scope.names [] → s₁.heap.objs.size < c ∧ (pushCells (s₁.heap.push { cls := .type "dict", data := .dict #[] }) scope.names).IsCell c none := fun n c h => ⟨(ok.empty n c h).2, (ok.empty n c h).1⟩
  have outc : ∀ n c, env.cells.lookup n = some c → c < s₁.heap.objs.size := fun n c e => by
    have := (F.cellOut n c e).2.2
    cases q : sb.heap.get? c with
    | none => exact absurd q this
    | some o => exact Heap.lt_size (G.kp _ _ q)
  refine ⟨⟨?_, G.kp.trans kp1, Kp.refl _, G.sub.trans kp1, fun _ _ e => e⟩, ⟨fun _ => none, ?_, fun x hx => ?_⟩, ⟨none_of _ G.kp _ (Nat.le_refl _), none_of _ G.sub _ (Nat.le_refl _)⟩, fun n hn => ?_, fun n c e => ?_, fun n c e hr => ?_, fun n n' c e e' => ?_, fun p hp => ?_, hmn⟩
  · obtain ⟨h, t, rfl⟩ := G.same; exact ⟨_, _, rfl⟩
  · exact (Heap.Ns.new s₁.heap (.type "dict")).keeps (pushCells_keeps _ _)
  · -- a local name: nothing yet
    have hx : (relabel scope env).names.lookup x = some .local := hx
    have := relabel_lookup env x scope.names
    rw [show (relabel scope env).names.lookup x = _ from this] at hx
    unfold cMap
    rw [if_neg]
    intro q
    rw [q] at hx
    simp only [Option.map_some, Option.some.injEq] at hx
    split at hx <;> cases hx
  · have hn : (relabel scope env).names.lookup n = some .cell := hn
    rw [show (relabel scope env).names.lookup n = _ from relabel_lookup env n scope.names] at hn
    cases q : scope.names.lookup n with
    | none => rw [q] at hn; cases hn
    | some kd =>
      rw [q] at hn
      simp only [Option.map_some, Option.some.injEq] at hn
      split at hn
      · rename_i h
        simp only [Bool.and_eq_true, beq_iff_eq] at h
        obtain ⟨⟨rfl, _⟩, hc⟩ := h
        obtain ⟨c, ec, hcell⟩ := F.cell n hc
        have hs := clOf_has env.cells scope.names [] n (.inl (mem_of_lookup q))
        obtain ⟨c', hc'⟩ := Option.isSome_iff_exists.mp hs
        have : (cEnv scope s₁.heap.objs.size env).cells.lookup n = some c' := by
          rw [ecs, List.lookup_append]
          cases z : (cellsFrom (s₁.heap.objs.size + 1) scope.names []).lookup n with
          | none => exact hc'
          | some c2 =>
            rcases cellsFrom_mem _ _ _ _ _ (mem_of_lookup z) with y | y
            · cases y
            · rw [lookup_mem_nodup hnd y] at q; cases q
        refine ⟨c', this, ?_⟩
        rcases cas n c' this with ⟨_, y⟩ | ⟨y, _⟩
        · rw [y] at q; cases q
        · rw [ec] at y
          cases y
          unfold cMap
          rw [if_pos q]
          exact hcell.keeps (G.kp.trans kp1)
      · subst hn
        have hs := cellsFrom_some scope.names (s₁.heap.objs.size + 1) [] (x := n) (.inl q)
        obtain ⟨c', hc'⟩ := Option.isSome_iff_exists.mp hs
        refine ⟨c', by rw [ecs, List.lookup_append, hc']; rfl, ?_⟩
        unfold cMap
        rw [if_neg (by rw [q]; decide)]
        exact (newc n c' (mem_of_lookup hc')).2
  · rcases cas n c e with ⟨h, _⟩ | ⟨h, _⟩
    · obtain ⟨h1, h2⟩ := newc n c h
      refine ⟨none_of _ G.sub _ (Nat.le_of_lt h1), Nat.ne_of_gt h1, ?_⟩
      obtain ⟨o, ho, _⟩ := h2
      show (pushCells _ _).get? c ≠ none
      rw [ho]; exact fun z => by cases z
    · obtain ⟨h1, h2, h3⟩ := F.cellOut n c h
      refine ⟨h1, Nat.ne_of_lt (outc n c h), ?_⟩
      cases q : sb.heap.get? c with
      | none => exact absurd q h3
      | some o =>
        show (pushCells _ _).get? c ≠ none
        rw [kp1 _ _ (G.kp _ _ q)]; exact fun z => by cases z
  · rcases cas n c e with ⟨h, _⟩ | ⟨_, h⟩
    · exact none_of _ G.kp _ (Nat.le_of_lt (newc n c h).1)
    · exact absurd (List.mem_map.mpr ⟨(n, NameKind.free), List.mem_filter.mpr ⟨mem_of_lookup h, rfl⟩, rfl⟩) hr
  · rcases cas n c e with ⟨h, _⟩ | ⟨h, _⟩ <;> rcases cas n' c e' with ⟨h', _⟩ | ⟨h', _⟩
    · exact name_of_addr ok.apart h h'
    · exact absurd (outc n' c h') (Nat.lt_asymm (newc n c h).1)
    · exact absurd (outc n c h) (Nat.lt_asymm (newc n' c h').1)
    · exact F.cellInj n n' c h h'
  · obtain ⟨h1, h2, h3⟩ := hm p hp
    have lt := Heap.lt_size h1
    refine ⟨kp1 _ _ h1, h2, h3, Nat.ne_of_lt lt, fun n c e q => ?_⟩
    rcases cas n c e with ⟨h, _⟩ | ⟨h, _⟩
    · rw [q] at lt; exact Nat.lt_asymm lt (newc n c h).1
    · rw [q] at h2; exact (F.cellOut n c h).2.2 h2
end Mine
end

section
set_option maxRecDepth 100000
set_option autoImplicit false
set_option linter.unusedVariables false
open PySem PySem.W PyProof.Rows
namespace Mine

/-- something to loop over: n items -/
def Src (prog : Program) (w : World) (A : Around) (g : Heap) (s : Shared) (xv : Value) (n : Nat) (P : Nat → Value → Prop) : Prop :=
  ∃ Ob o, o.isFreed = false ∧ (∀ I, Itr prog w A g I n P Ob) ∧ Ob 0 o ∧ ∀ (Q : Value → Shared → Prop) (E : Value → Shared → Prop), Q (.ref s.heap.objs.size) { s with heap := s.heap.push o } → wpAny (model prog w) A (pyIter xv) Q E s
theorem Src.list {prog : Program} {w : World} {A : Around} {g : Heap} {s : Shared} {l : Addr} {vs : List Value} (hh : A.handled = none) (k : Kp g s.heap) (hl : LL g l vs) : Src prog w A g s (.ref l) vs.length (fun k v => vs[k]? = some v) :=
  ⟨liOb l, { cls := .type "list_iterator", data := .fields #[.ref l, .int 0 0] }, rfl, fun I => Itr.list hh hl, ⟨rfl, rfl⟩, fun Q E h => wpAny_pyIter_list (hl.mono k).isList h⟩
theorem Src.range {prog : Program} {w : World} {A : Around} {g : Heap} {s : Shared} {r : Addr} {a b : Int} {n : Nat} {t u v : Tok} (hh : A.handled = none) (hr : s.heap.get? r = some { cls := .type "range", data := .fields #[.int a t, .int b u, .int 1 v] })
    (hn : (n : Int) = b - a) (ha : -(2 ^ 62) ≤ a) (hb : b < 2 ^ 62) : Src prog w A g s (.ref r) n (fun k v => ∃ t, v = .int (a + k) t) := by
  refine ⟨riOb a n, { cls := .type "range_iterator", data := .fields #[rawInt a, rawInt (Builtin.Range.rangeSize a b 1), rawInt 1] }, rfl, fun I => Itr.range hh, ?_, fun Q E h => wpAny_pyIter_range (t := t) (u := u) (v := v) hr (small_one ha (by omega) (by omega) hb) h⟩
  have e : Builtin.Range.rangeSize a b 1 = n := by
    rw [rangeSize_one]
    split <;> omega
  show _ = _
  rw [e]
  simp

theorem put_put (m : Str → Option Value) (x : Str) (a b : Value) : put (put m x a) x b = put m x b := by
  funext y; unfold put; split <;> rfl

section
variable {prog : Program} {w : World} {A : Around} {E : Value → Shared → Prop}

abbrev testsOf (ifs : List Expr) (env : Env) : Sem Bool := forIn ifs true fun c r => if r = true then do let ok ← isTrue c env (eval c env); pure (ForInStep.yield ok) else pure (ForInStep.yield r)

/-- one turn of a comprehension's loop -/
def CTurn (prog : Program) (w : World) (A : Around) (g : Heap) (sb : Shared) (cenv : Env) (ro : List Str) (m₀ : Str → Option Value) (x : Str) (ifs : List Expr) (elt : Expr) (n : Nat) (P : Nat → Value → Prop) (J : Nat → List Value → Heap → Prop) : Prop :=
  ∀ (k : Nat) (v : Value) (ys : List Value) (own : List (Addr × Obj)) (g' : Heap) (s' : Shared) (E' : Value → Shared → Prop), k < n → P k v → Kp g g' → J k ys g' → FS g sb cenv ro (put m₀ x v) own g' s' →
    wpAny (model prog w) A (testsOf ifs cenv) (fun ok s₁ => if ok = true then wpAny (model prog w) A (eval elt cenv) (fun y s₂ => ∃ g₂, FS g sb cenv ro (put m₀ x v) own g₂ s₂ ∧ Kp g' g₂ ∧ J (k + 1) (ys ++ [y]) g₂) E' s₁
      else ∃ g₁, FS g sb cenv ro (put m₀ x v) own g₁ s₁ ∧ Kp g' g₁ ∧ J (k + 1) ys g₁) E' s'

theorem comp_loop {R : Result → Shared → Prop} {s sb : Shared} {elt iter : Expr} {x : Str} {px : Pos} {ifs : List Expr} {scope : Scope} {pos : Pos} {cenv : Env} {ro : List Str} {m₀ : Str → Option Value} {I D : Addr} {n : Nat} {P : Nat → Value → Prop} {Ob : Nat → Obj → Prop} {g : Heap} {J : Nat → List Value → Heap → Prop}
    {o : Obj} (W : Itr prog w A g I n P Ob) (hk : cenv.scope.kind = .function) (hx : cenv.kindOf x = some .local ∨ (cenv.kindOf x = some .cell ∧ x ∉ ro)) (hn : n ≤ sizeLine)
    (turn : CTurn prog w A g sb cenv ro m₀ x ifs elt n P J) (ho : Ob 0 o) (hJ : J 0 [] g) (F : FS g sb cenv ro m₀ [(D, lo [] 0), (I, o)] g s)
    (hR : ∀ ys c g' s' m', FS g sb cenv ro m' [(D, lo ys c)] g' s' → Kp g g' → J n ys g' → R (.ok .next) s') :
    codeAny (model prog w) A (.compLoop (.ListComp elt [⟨.Name x px, iter, ifs, 0⟩] scope pos) 0 (.ref I) (.ref D) cenv) R s := by
  refine codeAny_compLoop_tests (fun j s => ∃ k ys c o g' m', j = n - k ∧ k ≤ n ∧ ys.length ≤ k ∧ Ob k o ∧ Kp g g' ∧ J k ys g' ∧ (∀ v, put m' x v = put m₀ x v) ∧ FS g sb cenv ro m' [(D, lo ys c), (I, o)] g' s) (fun j s h => ?_) n
    ⟨0, [], 0, o, g, m₀, by omega, Nat.zero_le _, Nat.le_refl _, ho, Kp.refl _, hJ, fun _ => rfl, F⟩ (fun _ => rfl)
  obtain ⟨k, ys, c, o, g', m', rfl, hkn, hys, ho, kg, hJ, hm, F⟩ := h
  have hI := F.ownGet (.tail _ (.head _))
  by_cases hlt : k < n
  · refine W.item k o s _ _ hlt ho (kg.trans F.kp) hI fun v o' h' tk hP ho' he hs => ?_
    have F := (F.swap.upd (tk := tk) hs he).swap
    refine wpAny_assign_Name (stF F hk hx fun s₂ F => ?_)
    rw [hm] at F
    refine wpAny_mono (turn k v ys _ g' s₂ _ hlt hP kg hJ F) (fun ok s₃ h₃ => ?_) fun _ _ e => e
    cases ok with
    | false =>
      rw [if_neg (by decide)] at h₃ ⊢
      obtain ⟨g₁, F, k₁, hJ⟩ := h₃
      exact ⟨n - (k + 1), by omega, k + 1, ys, c, o', g₁, _, rfl, hlt, by omega, ho', kg.trans k₁, hJ, fun v' => put_put m₀ x v v', F⟩
    | true =>
      rw [if_pos rfl] at h₃ ⊢
      refine wpAny_mono h₃ (fun y s₄ h₄ => ?_) fun _ _ e => e
      obtain ⟨g₂, F, k₂, hJ⟩ := h₄
      refine append_F F (fun c' s₅ F => ?_) (by rw [sizeLine_eq] at hn ⊢; omega)
      exact ⟨n - (k + 1), by omega, k + 1, ys ++ [y], c', o', g₂, _, rfl, hlt, by simp; omega, ho', kg.trans k₂, hJ, fun v' => put_put m₀ x v v', F⟩
  · have hkn : k = n := by omega
    subst hkn
    refine W.done o s _ _ ho (kg.trans F.kp) hI fun h' tk hs => ?_
    have F := FS.moved (lent := [(I, o)]) (lent' := []) F.swap (s' := { s with heap := h', toks := tk }) ⟨_, _, rfl⟩ (fun b o hb e => hs b o (by simpa using hb) e) (fun p hp => nomatch hp) List.nodup_nil
    exact hR ys c g' _ m' F kg hJ
end
end Mine
end

section
set_option maxRecDepth 100000
set_option autoImplicit false
set_option linter.unusedVariables false
open PySem PySem.W PyProof.Rows
namespace Mine
section
variable {prog : Program} {w : World} {A : Around} {E : Value → Shared → Prop} {g₀ g : Heap} {s₀ s : Shared} {env : Env} {ro : List Str} {m : Str → Option Value} {own : List (Addr × Obj)}

/-- what a comprehension leaves: its list, its own names' table -/
theorem comp_ret {sb s' : Shared} {g' : Heap} {cenv : Env} {ro' : List Str} {m' : Str → Option Value} {D : Addr} {ob : Obj} (F : FS g sb cenv ro' m' [(D, ob)] g' s') :
    ∃ oC ml, s'.heap.get? cenv.locals = some oC ∧ (∀ h : Heap, h.get? cenv.locals = some oC → h.Ns cenv.locals ml) ∧ Ret g sb [] [(cenv.locals, oC), (D, ob)] g' s' := by
  obtain ⟨ml, ⟨oC, es, ep, e1, r⟩, _⟩ := F.ns
  obtain ⟨d1, d2, d3, d4, _⟩ := F.mine _ (.head _)
  have hh : ∀ a, (hideS [] sb).heap.get? a = sb.heap.get? a := fun a => by rw [hideS_get]; rfl
  refine ⟨oC, ml, e1, fun h e => ⟨oC, es, ep, e, r⟩, ⟨⟨F.grow.same, fun a o e => F.grow.kp _ _ (by rw [hh] at e; exact e), F.grow.gg, F.grow.sub, fun a h => F.grow.apart a (by rw [hh] at h; exact h)⟩, fun p hp => ?_, ?_⟩⟩
  · simp only [List.mem_cons, List.not_mem_nil, or_false] at hp
    rcases hp with rfl | rfl
    · exact ⟨e1, by rw [hh]; exact F.locNew.1, F.locNew.2⟩
    · exact ⟨d1, by rw [hh]; exact d2, d3⟩
  · simp only [List.map_cons, List.map_nil, List.nodup_cons, List.mem_cons, List.not_mem_nil, or_false, not_false_eq_true, List.nodup_nil, and_true]
    exact fun q => d4 q.symm

section
variable {elt iter : Expr} {x : Str} {px : Pos} {ifs : List Expr} {scope : Scope} {pos : Pos} {n : Nat} {P : Nat → Value → Prop} {J : Nat → List Value → Heap → Prop}

/-- the loop of a comprehension, from the first item on -/
theorem comp_core {xv : Value} {use : Option (Value → Sem Unit)} {Q : Value → Shared → Prop} (F : FS g₀ s₀ env ro m own g s) (src : Src prog w A g s xv n P)
    (hke : env.scope.kind = .function) (hks : scope.kind = .function) (hnd : (scope.names.map (·.1)).Nodup) (hfree : (scope.names.all fun x => x.2 != .free || (env.cells.lookup x.1).isSome) = true)
    (hx : ∀ C, (cEnv scope C env).kindOf x = some .local ∨ ((cEnv scope C env).kindOf x = some .cell ∧ x ∉ cRo scope)) (hn : n ≤ sizeLine) (hJ : J 0 [] g)
    (turn : ∀ C, s.heap.objs.size ≤ C → CTurn prog w A g s (cEnv scope C env) (cRo scope) (cMap scope m) x ifs elt n P J)
    (hR : ∀ C D ys c g' s' m', FS g s (cEnv scope C env) (cRo scope) m' [(D, lo ys c)] g' s' → Kp g g' → J n ys g' → compPost (model prog w) A E use Q (.ref D) C (.ok .next) s') :
    wpAny (model prog w) A (pyIter xv) (fun it s₂ => wpAny (model prog w) A (newList []) (fun acc s₃ =>
      wpAny (model prog w) A (newFunctionEnv scope env.globals (clOf env.cells scope.names []) [] env.qual none .none (some env)) (fun cenv s₄ =>
        codeAny (model prog w) A (.compStart (.ListComp elt [⟨.Name x px, iter, ifs, 0⟩] scope pos) 0 it acc { cenv with scope := relabel scope env }) (compPost (model prog w) A E use Q acc cenv.locals) s₄) E s₃) E s₂) E s := by
  obtain ⟨Ob, o, hf, W, ho, hiter⟩ := src
  refine hiter _ _ (wpAny_newObj_type (newEnv_comp ?_) (by show ([] : List Value).toArray.size ≤ sizeLine; rw [sizeLine_eq]; decide))
  have F1 := (F.push o hf).push (lo [] 0)
  have G : Grow g s g { s with heap := (s.heap.push o).push (lo [] 0) } := ⟨⟨_, _, rfl⟩, fun b ob e => Heap.get?_push_of_some _ (Heap.get?_push_of_some _ e), Kp.refl _, F1.kp, fun _ _ e => e⟩
  have none_of : ∀ a, s.heap.objs.size ≤ a → s.heap.get? a = none := fun a h => by
    cases q : s.heap.get? a with
    | none => rfl
    | some o => exact absurd (Heap.lt_size q) (Nat.not_lt.mpr h)
  dsimp only at F1
  rw [Heap.size_push] at F1
  have FC := FS.comp (scope := scope) (mineo := [(s.heap.objs.size + 1, lo [] 0), (s.heap.objs.size, o)]) F hke hnd hfree G (fun p hp => by
      simp only [List.mem_cons, List.not_mem_nil, or_false] at hp
      rcases hp with rfl | rfl
      · exact ⟨F1.ownGet (.head _), none_of _ (Nat.le_succ _), (F1.mine _ (.head _)).2.2.1⟩
      · exact ⟨F1.ownGet (.tail _ (.head _)), none_of _ (Nat.le_refl _), (F1.mine _ (.tail _ (.head _))).2.2.1⟩) (by simp)
  have hs : s.heap.objs.size ≤ ((s.heap.push o).push (lo [] 0)).objs.size := by rw [Heap.size_push, Heap.size_push]; omega
  have key := comp_loop (R := compPost (model prog w) A E use Q (.ref (s.heap.objs.size + 1)) ((s.heap.push o).push (lo [] 0)).objs.size) (iter := iter) (px := px) (pos := pos) (scope := scope) (W s.heap.objs.size) hks (hx _) hn (turn _ hs) ho hJ FC (fun ys c g' s' m' F' k' J' => hR _ _ ys c g' s' m' F' k' J')
  rw [show ({ s with heap := s.heap.push o } : Shared).heap.objs.size = s.heap.objs.size + 1 from Heap.size_push ..]
  refine codeAny_compStart_list key ?_
  exact (W s.heap.objs.size).self 0 o _ _ _ ho (FC.ownGet (.tail _ (.head _))) key

/-- a list comprehension -/
theorem comp_eval {Q : Value → Shared → Prop} (hks : scope.kind = .function) (hke : env.scope.kind = .function) (hnd : (scope.names.map (·.1)).Nodup) (hfree : (scope.names.all fun x => x.2 != .free || (env.cells.lookup x.1).isSome) = true)
    (hx : ∀ C, (cEnv scope C env).kindOf x = some .local ∨ ((cEnv scope C env).kindOf x = some .cell ∧ x ∉ cRo scope)) (hJm : ∀ ys g g', Kp g g' → J n ys g → J n ys g')
    (h : wpAny (model prog w) A (eval iter env) (fun xv s₁ => ∃ g₁ : Heap, FS g₀ s₀ env ro m own g₁ s₁ ∧ Src prog w A g₁ s₁ xv n P ∧ n ≤ sizeLine ∧ J 0 [] g₁ ∧
      (∀ C, s₁.heap.objs.size ≤ C → CTurn prog w A g₁ s₁ (cEnv scope C env) (cRo scope) (cMap scope m) x ifs elt n P J) ∧
      ∀ D ys g' s', FS g₀ s₀ env ro m own g' s' → Kp g₁ g' → LL g' D ys → J n ys g' → Q (.ref D) s') E s)
    (hs : ∀ x, foldedSetIterable iter env x = pure x := by intro _; rfl) :
    wpAny (model prog w) A (eval (.ListComp elt [⟨.Name x px, iter, ifs, 0⟩] scope pos) env) Q E s := by
  rw [eval_ListComp]
  have hnames : ∀ x ∈ scope.names, x.2 = .local → scope.names.lookup x.1 = some .local := fun y hy e => by
    obtain ⟨a, b⟩ := y; dsimp only at e; subst e; exact lookup_mem_nodup hnd hy
  refine wpAny_comprehension_free (use := none) rfl hs (closureFor_clOf hfree) hks hnames (wpAny_mono h (fun xv s₁ h₁ => ?_) fun _ _ e => e)
  obtain ⟨g₁, F, src, hn, hJ, turn, hQ⟩ := h₁
  refine comp_core F src hke hks hnd hfree hx hn hJ turn fun C D ys c g' s' m' FC k' J' => ?_
  obtain ⟨oC, ml, e1, e2, R⟩ := comp_ret FC
  refine ⟨ml, e2 _ e1, fun h' hs' => ?_⟩
  have F1 := FS.back (lent := []) (own := own) F R
  have F2 := FS.moved (lent := [(C, oC)]) (lent' := []) (own := (D, lo ys c) :: own) F1 (s' := { s' with heap := h' }) ⟨_, _, rfl⟩ (fun b o hb e => hs'.extBut b o (by simpa using hb) e) (fun p hp => nomatch hp) List.nodup_nil
  obtain ⟨g2, F3, k3, e3⟩ := FS.freeze F2
  exact hQ D ys g2 _ F3 (k'.trans k3) ⟨c, e3⟩ (hJm _ _ _ k3 J')

/-- t = [.. for .. in ..] -/
theorem comp_assign {t : Str} {pt spos : Pos} {Q : Flow → Shared → Prop} (hks : scope.kind = .function) (hke : env.scope.kind = .function) (hnd : (scope.names.map (·.1)).Nodup) (hfree : (scope.names.all fun x => x.2 != .free || (env.cells.lookup x.1).isSome) = true)
    (hx : ∀ C, (cEnv scope C env).kindOf x = some .local ∨ ((cEnv scope C env).kindOf x = some .cell ∧ x ∉ cRo scope)) (hJm : ∀ ys g g', Kp g g' → J n ys g → J n ys g')
    (ht : env.kindOf t = some .local) (hsw : swapsWith (.ListComp elt [⟨.Name x px, iter, ifs, 0⟩] scope pos) (some (.Name t pt)) spos.line env = pure true)
    (h : wpAny (model prog w) A (eval iter env) (fun xv s₁ => ∃ g₁ : Heap, FS g₀ s₀ env ro m own g₁ s₁ ∧ Src prog w A g₁ s₁ xv n P ∧ n ≤ sizeLine ∧ J 0 [] g₁ ∧
      (∀ C, s₁.heap.objs.size ≤ C → CTurn prog w A g₁ s₁ (cEnv scope C env) (cRo scope) (cMap scope m) x ifs elt n P J) ∧
      ∀ D ys g' s', FS g₀ s₀ env ro (put m t (.ref D)) own g' s' → Kp g₁ g' → LL g' D ys → J n ys g' → Q .next s') E s)
    (hs : ∀ x, foldedSetIterable iter env x = pure x := by intro _; rfl) :
    wpAny (model prog w) A (exec (.Assign [.Name t pt] (.ListComp elt [⟨.Name x px, iter, ifs, 0⟩] scope pos) spos) env) Q E s := by
  rw [exec_Assign_Name_used t pt _ spos hsw]
  refine wpAny_bind (wpAny_standAt (wpAny_bind ?_))
  have hnames : ∀ x ∈ scope.names, x.2 = .local → scope.names.lookup x.1 = some .local := fun y hy e => by
    obtain ⟨a, b⟩ := y; dsimp only at e; subst e; exact lookup_mem_nodup hnd hy
  rw [arm_evalThenUse_ListComp]
  refine wpAny_bind (wpAny_comprehension_free (use := some (assign (.Name t pt) env)) rfl hs (closureFor_clOf hfree) hks hnames (wpAny_mono h (fun xv s₁ h₁ => ?_) fun _ _ e => e))
  obtain ⟨g₁, F, src, hn, hJ, turn, hQ⟩ := h₁
  refine comp_core F src hke hks hnd hfree hx hn hJ turn fun C D ys c g' s' m' FC k' J' => ?_
  obtain ⟨oC, ml, e1, e2, R⟩ := comp_ret FC
  have F1 := FS.back (lent := []) (own := own) F R
  refine wpAny_assign_Name (stF F1 hke (.inl ht) fun s₂ F1 => ?_)
  refine ⟨ml, e2 _ (F1.ownGet (.head _)), fun h' hs' => ?_⟩
  have F2 := FS.moved (lent := [(C, oC)]) (lent' := []) (own := (D, lo ys c) :: own) F1 (s' := { s₂ with heap := h' }) ⟨_, _, rfl⟩ (fun b o hb e => hs'.extBut b o (by simpa using hb) e) (fun p hp => nomatch hp) List.nodup_nil
  obtain ⟨g2, F3, k3, e3⟩ := FS.freeze F2
  exact wpAny_pure (wpAny_pure (hQ D ys g2 _ F3 (k'.trans k3) ⟨c, e3⟩ (hJm _ _ _ k3 J')))
end
end
end Mine
end

section
set_option maxRecDepth 100000
set_option autoImplicit false
set_option linter.unusedVariables false
open PySem PySem.W PyProof.Rows
namespace Mine
section
variable {prog : Program} {w : World} {A : Around} {E : Value → Shared → Prop} {g₀ g : Heap} {s₀ s : Shared} {env : Env} {ro : List Str} {m : Str → Option Value} {own : List (Addr × Obj)}

/-- a for over an iterator that is the frame's own -/
theorem for_code {R : Result → Shared → Prop} {x : Str} {px : Pos} {body orelse : List Stmt} {I : Addr} {o : Obj} {k₀ n : Nat} {P : Nat → Value → Prop} {Ob : Nat → Obj → Prop} (Inv : Nat → (Str → Option Value) → List (Addr × Obj) → Heap → Prop)
    (W : Itr prog w A g I n P Ob) (hk : env.scope.kind = .function) (hx : env.kindOf x = some .local ∨ (env.kindOf x = some .cell ∧ x ∉ ro))
    (turn : ∀ (k : Nat) (v : Value) (p : Addr × Obj) (m' : Str → Option Value) (own' : List (Addr × Obj)) (g' : Heap) (s' : Shared) (E' : Value → Shared → Prop), k < n → P k v → Kp g g' → Inv k m' own' g' → FS g₀ s₀ env ro (put m' x v) (p :: own') g' s' →
      wpAny (model prog w) A (execs body env) (fun fl s₁ => match fl with
        | .next | .cont => ∃ m₁ own₁ g₁, FS g₀ s₀ env ro m₁ (p :: own₁) g₁ s₁ ∧ Kp g' g₁ ∧ Inv (k + 1) m₁ own₁ g₁
        | .brk => R (.ok .next) s₁
        | .ret v => R (.ok (.ret v)) s₁) E' s')
    (fin : ∀ (m' : Str → Option Value) (own' : List (Addr × Obj)) (g' : Heap) (s' : Shared) (E' : Value → Shared → Prop), Kp g g' → Inv n m' own' g' → FS g₀ s₀ env ro m' own' g' s' → wpAny (model prog w) A (execs orelse env) (fun f s₃ => R (.ok f) s₃) E' s')
    (hk₀ : k₀ ≤ n) (ho : Ob k₀ o) (F : FS g₀ s₀ env ro m ((I, o) :: own) g s) (hI : Inv k₀ m own g) : codeAny (model prog w) A (.forLoop (.Name x px) (.ref I) body orelse env) R s := by
  refine codeAny_forLoop (fun j s => ∃ k o m' own' g', j = n - k ∧ k ≤ n ∧ Ob k o ∧ Kp g g' ∧ Inv k m' own' g' ∧ FS g₀ s₀ env ro m' ((I, o) :: own') g' s) (fun j s h => ?_) (n - k₀) ⟨k₀, o, m, own, g, rfl, hk₀, ho, Kp.refl _, hI, F⟩ (fun _ => rfl)
  obtain ⟨k, o, m', own', g', rfl, hkn, ho, kg, hI, F⟩ := h
  have hg := F.ownGet (.head _)
  by_cases hlt : k < n
  · refine W.item k o s _ _ hlt ho (kg.trans F.kp) hg fun v o' h' tk hP ho' he hs => ?_
    have F := F.upd (tk := tk) hs he
    refine wpAny_assign_Name (stF F hk hx fun s₂ F => ?_)
    refine wpAny_mono (turn k v (I, o') m' own' g' s₂ _ hlt hP kg hI F) (fun fl s₃ h₃ => ?_) fun _ _ e => e
    cases fl with
    | brk => exact h₃
    | ret v => exact h₃
    | next =>
      obtain ⟨m₁, own₁, g₁, F, k₁, hI⟩ := h₃
      exact ⟨n - (k + 1), by omega, k + 1, o', m₁, own₁, g₁, rfl, hlt, ho', kg.trans k₁, hI, F⟩
    | cont =>
      obtain ⟨m₁, own₁, g₁, F, k₁, hI⟩ := h₃
      exact ⟨n - (k + 1), by omega, k + 1, o', m₁, own₁, g₁, rfl, hlt, ho', kg.trans k₁, hI, F⟩
  · have hkn : k = n := by omega
    subst hkn
    refine W.done o s _ _ ho (kg.trans F.kp) hg fun h' tk hs => ?_
    have F := FS.moved (lent := [(I, o)]) (lent' := []) (own := own') F (s' := { s with heap := h', toks := tk }) ⟨_, _, rfl⟩ (fun b o hb e => hs b o (by simpa using hb) e) (fun p hp => nomatch hp) List.nodup_nil
    exact fin m' own' g' _ _ kg hI F

/-- a for statement -/
theorem for_stmt {Q : Flow → Shared → Prop} {x : Str} {px pos : Pos} {iter : Expr} {body orelse : List Stmt} {n : Nat} {P : Nat → Value → Prop} (Inv : Nat → (Str → Option Value) → List (Addr × Obj) → Heap → Prop)
    (hk : env.scope.kind = .function) (hx : env.kindOf x = some .local ∨ (env.kindOf x = some .cell ∧ x ∉ ro))
    (h : wpAny (model prog w) A (eval iter env) (fun xv s₁ => ∃ g₁ m₁ own₁, FS g₀ s₀ env ro m₁ own₁ g₁ s₁ ∧ Src prog w A g₁ s₁ xv n P ∧ Inv 0 m₁ own₁ g₁ ∧
      (∀ (k : Nat) (v : Value) (p : Addr × Obj) (m' : Str → Option Value) (own' : List (Addr × Obj)) (g' : Heap) (s' : Shared) (E' : Value → Shared → Prop), k < n → P k v → Kp g₁ g' → Inv k m' own' g' → FS g₀ s₀ env ro (put m' x v) (p :: own') g' s' →
        wpAny (model prog w) A (execs body env) (fun fl s₁ => match fl with
          | .next | .cont => ∃ m₁ own₁ g₁, FS g₀ s₀ env ro m₁ (p :: own₁) g₁ s₁ ∧ Kp g' g₁ ∧ Inv (k + 1) m₁ own₁ g₁
          | .brk => Q .next s₁
          | .ret v => Q (.ret v) s₁) E' s') ∧
      (∀ (m' : Str → Option Value) (own' : List (Addr × Obj)) (g' : Heap) (s' : Shared) (E' : Value → Shared → Prop), Kp g₁ g' → Inv n m' own' g' → FS g₀ s₀ env ro m' own' g' s' → wpAny (model prog w) A (execs orelse env) (fun f s₃ => Q f s₃) E' s')) E s)
    (hs : ∀ x, foldedSetIterable iter env x = pure x := by intro _; rfl) : wpAny (model prog w) A (exec (.For (.Name x px) iter body orelse pos) env) Q E s := by
  refine wpAny_For (wpAny_mono h (fun xv s₁ h₁ => ?_) fun _ _ e => e) hs
  obtain ⟨g₁, m₁, own₁, F, ⟨Ob, o, hf, W, ho, hiter⟩, hI, turn, fin⟩ := h₁
  refine hiter _ _ ?_
  exact for_code (R := fun r s' => match r with | .ok f => Q f s' | .error e => cameBackBy (model prog w) A env E e s') Inv (W _) hk hx turn fin (Nat.zero_le _) ho (F.push o hf) hI
end
end Mine
end

section
set_option maxRecDepth 100000
set_option autoImplicit false
set_option linter.unusedVariables false
open PySem PySem.W PyProof.Rows
namespace Mine
open PyProof.Rows.TI (Frs SameUp)

theorem sameUp_addrs : ∀ {a b : List (Addr × Obj)}, SameUp a b → b.map (·.1) = a.map (·.1)
  | [], [], _ => rfl
  | p :: ps, q :: qs, h => by
    obtain ⟨x1, _, x3⟩ := h
    simp only [List.map_cons, x1, sameUp_addrs x3]
  | [], _ :: _, h => False.elim h
  | _ :: _, [], h => False.elim h

section
variable {M : Model} {A : Around} {E : Value → Shared → Prop} {s₁ s₂ s : Shared} {g g₀ g₁ : Heap} {s₀ : Shared} {env : Env} {l : List Env} {fr own lent : List (Addr × Obj)} {ro : List Str} {m : Str → Option Value}

theorem setFlight_againW {base : Heap} {l : List Env} {e : Addr} {cls a0 : Value} {L : Addr} {Q : Unit → Shared → Prop} (hh : Heap.HeldW base l e cls a0 L s.heap)
    (hQ : ∀ h', Heap.HeldW base l e cls a0 L h' → s.heap.UpToSlots h' → Q () { s with heap := h' }) : wpAny M A (setFlight (.ref e) (some L)) Q E s := by
  obtain ⟨hkb, f2, hl, oe, vs, T, oT, ts, he, hcls, hd, h1, hnT, hTe, hT, hdT, h3⟩ := hh
  have hsz3 : 3 < ts.size := (Array.getElem?_eq_some_iff.mp h3).1
  have other : ∀ b, b ≠ T → (s.heap.update T (Obj.mapFields (·.setIfInBounds 3 ((some L : Option Addr).elim Value.none fun f => rawInt f)))).get? b = s.heap.get? b :=
    fun b hb => Heap.get?_update_other _ _ (Ne.symm hb)
  have noRecord : ∀ b o, s.heap.get? b = some o → (∀ vs, o.data ≠ .fields vs) → b ≠ T := fun b o hb hnf q => by
    rw [q, hT] at hb; injection hb with hb; subst hb; exact hnf ts hdT
  unfold setFlight
  refine wpAny_bind (wpAny_field he hd h1 ?_)
  rw [if_pos (show (Value.ref T != Value.none) = true from by simp)]
  refine wpAny_setField hT hdT hsz3 (hQ _ ⟨fun b o hbo => (other b fun q => by rw [q, hnT] at hbo; cases hbo).trans (hkb b o hbo), f2,
    hl.of_keeps fun b o hb hnf => ⟨o, (other b (noRecord b o hb hnf)).trans hb, rfl⟩, ?_⟩ fun b o hb hnf => ⟨o.slots, (other b (noRecord b o hb hnf)).trans hb⟩)
  exact ⟨oe, vs, T, _, _, (other e (Ne.symm hTe)).trans he, hcls, hd, h1, hnT, hTe, Heap.get?_update_self _ hT (Obj.isFreed_of_fields (Obj.data_mapFields hdT _)), Obj.data_mapFields hdT _, by simp [hsz3]⟩

/-- a fresh exception leaves a frame out of a loop of it -/
theorem raise_out {e : Addr} {cls : String} {vs : List Value} {R0 : Value → Shared → Prop} {E1 E2 : Value → Shared → Prop} (F : FS g (hideS lent s) env ro m own g₁ s₁) (hfr : A.frames = some l) (Fs : Frs l fr) (hsub : ∀ p ∈ fr, p ∈ own)
    (hk : env.scope.kind = .function) (hf : env.frame = some env.locals) (hx : Heap.MadeExc s₁.heap s₂.heap e cls vs)
    (h : ∀ h' a0, Heap.FlyingW (hideS lent s).heap l e (.type cls) a0 h' → s₁.heap.UpToSlots h' → R0 (.ref e) { s₂ with heap := h' }) :
    wpAny M (A.deeper env) (noteFrame (.ref e) env) (fun _ s' => cameBackBy M (A.deeper env) env (fun e s' => wpAny M (A.deeper env) (leaving env e) (fun _ s'' => R0 e s'') E2 s') (.ref e) s') E1 s₂ := by
  obtain ⟨t, he, ht0, ht⟩ := hx.there
  have kb : Heap.StaysIn (hideS lent s).heap s₂.heap := fun b o eb => hx.keeps b o (F.grow.kp _ _ eb)
  have hen : (hideS lent s).heap.get? e = none := by
    cases q : (hideS lent s).heap.get? e with
    | none => rfl
    | some o => have := F.grow.kp _ _ q; rw [hx.new] at this; cases this
  obtain ⟨ml, hns, _⟩ := F.ns
  have ff : s₂.heap.FunFrames (hideS lent s).heap (env :: l) :=
    Heap.FunFrames.cons (by rw [hk]; decide) hf (hns.keeps hx.keeps) F.locNew.1 (Frs.fun Fs fun p hp => ⟨hx.keeps _ _ (F.mine p (hsub p hp)).1, (F.mine p (hsub p hp)).2.1⟩)
  unfold noteFrame
  simp only [hf]
  refine wpAny_bind (wpAny_field he rfl (x := .none) rfl ?_)
  rw [if_neg (by decide)]
  refine wpAny_entryW (a0 := .ref t) (Around.frames_deeper hfr) ff hf he kb hen rfl (by show 1 < 6; decide) rfl fun h' hN => ?_
  obtain ⟨k1, k2, k3, k4⟩ := hN
  have H : Heap.HeldW (hideS lent s).heap (env :: l) e (.type cls) (.ref t) env.locals h' := ⟨k1, hen, k2, k3⟩
  have u1 : s₁.heap.UpToSlots h' := (Heap.UpToSlots.of_keeps hx.keeps).trans k4
  unfold cameBackBy
  obtain ⟨oe, ws, T, oT, ts, e1, e2, e3, e4, _⟩ := id k3
  refine wpAny_bind (wpAny_field e1 e3 e4 ?_)
  dsimp only
  rw [if_neg (by simp), hf]
  refine setFlight_againW H fun h₂ H₂ u2 => ?_
  unfold leaving
  refine wpAny_bind (wpAny_noteFrame_againW hf H₂.2.2.2 ?_)
  refine wpAny_landsW H₂ fun h₃ H₃ u3 => ?_
  obtain ⟨k1, k2, ⟨_, _, k3⟩, k4⟩ := H₃
  exact h h₃ (.ref t) ⟨k1, k2, k3, k4⟩ ((u1.trans u2).trans u3)
end

section
variable {g₀ g g' : Heap} {s₀ s s' : Shared} {env : Env} {ro : List Str} {m : Str → Option Value} {own lent lent' sq fr : List (Addr × Obj)} {oL oL' : Obj}

/-- back from a frame to which this frame's own table was lent, too -/
theorem FS.backSelf (F : FS g₀ s₀ env ro m (lent ++ own) g s) (ho : s.heap.get? env.locals = some oL) (R : Ret g s ((env.locals, oL) :: lent) ((env.locals, oL') :: lent') g' s') (hsl : ∃ sl, oL' = { oL with slots := sl }) :
    FS g₀ s₀ env ro m (lent' ++ own) g' s' := by
  have G := R.grow
  have keep : ∀ a o, a ≠ env.locals → a ∉ lent.map (·.1) → s.heap.get? a = some o → s'.heap.get? a = some o := fun a o n1 n e => G.kp _ _ (hideS_not (by simp only [List.map_cons, List.mem_cons, not_or]; exact ⟨n1, n⟩) e)
  have nd := F.ownNd
  rw [List.map_append, List.nodup_append] at nd
  have ndR := R.nd
  rw [List.map_cons, List.nodup_cons] at ndR
  have lentMine : ∀ a ∈ lent.map (·.1), s₀.heap.get? a = none ∧ g.get? a = none ∧ a ≠ env.locals ∧ ∀ n c, env.cells.lookup n = some c → a ≠ c := fun a ha => by
    obtain ⟨p, hp, rfl⟩ := List.mem_map.mp ha
    exact (F.mine p (List.mem_append_left _ hp)).2
  have hcel : ∀ n c, env.cells.lookup n = some c → c ≠ env.locals ∧ c ∉ lent.map (·.1) := fun n c e => ⟨(F.cellOut n c e).2.1, fun q => (lentMine _ q).2.2.2 n c e rfl⟩
  have apart : ∀ a, a ≠ env.locals → a ∉ lent.map (·.1) → s.heap.get? a ≠ none → g.get? a = none → g'.get? a = none := fun a n1 n h e => G.apart a (by
    cases q : s.heap.get? a with
    | none => exact absurd q h
    | some o => rw [hideS_not (by simp only [List.map_cons, List.mem_cons, not_or]; exact ⟨n1, n⟩) q]; exact fun z => by cases z) e
  have some_ne : ∀ {a o}, s.heap.get? a = some o → s.heap.get? a ≠ none := fun e z => by rw [e] at z; cases z
  have two : ∀ p ∈ lent', p.1 ∈ lent.map (·.1) ∨ s.heap.get? p.1 = none := fun p hp => by
    have e := (R.mine p (.tail _ hp)).2.1
    rw [hideS_get] at e
    split at e
    · rename_i q
      have q := List.contains_iff_mem.mp q
      rw [List.map_cons, List.mem_cons] at q
      rcases q with q | q
      · exact absurd (List.mem_map.mpr ⟨p, hp, q⟩) ndR.1
      · exact .inl q
    · exact .inr e
  have newMine : ∀ a, s.heap.get? a = none → s₀.heap.get? a = none ∧ a ≠ env.locals ∧ ∀ n c, env.cells.lookup n = some c → a ≠ c := fun a e => by
    refine ⟨?_, fun q => F.loc_some (q ▸ e), fun n c ec q => (F.cellOut n c ec).2.2 (q ▸ e)⟩
    cases q : s₀.heap.get? a with
    | none => rfl
    | some o => rw [F.grow.kp _ _ q] at e; cases e
  obtain ⟨r1, r2, r3⟩ := R.mine _ (.head _)
  refine ⟨⟨?_, fun a o e => ?_, F.grow.gg.trans G.gg, G.sub, fun a h e => ?_⟩, ?_, ⟨F.locNew.1, r3⟩, fun n hn => ?_, fun n c e => ?_, F.cellNew, F.cellInj, fun p hp => ?_, ?_⟩
  · obtain ⟨h, t, rfl⟩ := F.grow.same; obtain ⟨h', t', rfl⟩ := G.same; exact ⟨h', t', rfl⟩
  · exact keep a o (fun q => by rw [q, F.locNew.1] at e; cases e) (fun q => by rw [(lentMine a q).1] at e; cases e) (F.grow.kp _ _ e)
  · have hn : a ∉ lent.map (·.1) := fun q => h (lentMine a q).1
    have hn1 : a ≠ env.locals := fun q => h (q ▸ F.locNew.1)
    refine apart a hn1 hn ?_ (F.grow.apart a h e)
    cases q : s₀.heap.get? a with
    | none => exact absurd q h
    | some o => rw [F.grow.kp _ _ q]; exact fun z => by cases z
  · obtain ⟨ml, ⟨o, es, ep, ho', r⟩, e⟩ := F.ns
    rw [ho] at ho'
    cases ho'
    obtain ⟨sl, rfl⟩ := hsl
    exact ⟨ml, ⟨_, es, ep, r1, r⟩, e⟩
  · obtain ⟨c, e, oc, hoc, hd⟩ := F.cell n hn
    exact ⟨c, e, oc, keep _ _ (hcel n c e).1 (hcel n c e).2 hoc, hd⟩
  · obtain ⟨a, b, d⟩ := F.cellOut n c e
    refine ⟨apart _ (hcel n c e).1 (hcel n c e).2 d a, b, ?_⟩
    cases q : s.heap.get? c with
    | none => exact absurd q d
    | some o => rw [keep _ _ (hcel n c e).1 (hcel n c e).2 q]; exact fun z => by cases z
  · rcases List.mem_append.mp hp with hp | hp
    · obtain ⟨a, _, b⟩ := R.mine p (.tail _ hp)
      rcases two p hp with c | c
      · obtain ⟨d1, d2, d3, d4⟩ := lentMine _ c
        exact ⟨a, d1, b, d3, d4⟩
      · obtain ⟨d1, d3, d4⟩ := newMine _ c
        exact ⟨a, d1, b, d3, d4⟩
    · obtain ⟨a, b, c, d, e⟩ := F.mine p (List.mem_append_right _ hp)
      have hn : p.1 ∉ lent.map (·.1) := fun q => nd.2.2 _ q _ (List.mem_map_of_mem hp) rfl
      exact ⟨keep _ _ d hn a, b, apart _ d hn (some_ne a) c, d, e⟩
  · rw [List.map_append, List.nodup_append]
    refine ⟨ndR.2, nd.2.1, fun a ha b hb q => ?_⟩
    obtain ⟨p, hp, rfl⟩ := List.mem_map.mp ha
    rcases two p hp with c | c
    · exact nd.2.2 _ c _ hb q
    · obtain ⟨p', hp', rfl⟩ := List.mem_map.mp hb
      have := (F.mine p' (List.mem_append_right _ hp')).1
      rw [← q, c] at this; cases this

/-- the frames' tables after an exception: all else stands -/
theorem FS.after (F : FS g₀ s₀ env ro m ((fr ++ sq) ++ own) g s) (ho : s.heap.get? env.locals = some oL) (same : ∃ h tk, s' = { s with heap := h, toks := tk })
    (k : Heap.StaysIn (hideS ((env.locals, oL) :: (fr ++ sq)) s).heap s'.heap) (u : ∀ p ∈ (env.locals, oL) :: fr, ∃ sl, s'.heap.get? p.1 = some { p.2 with slots := sl }) :
    ∃ fr', SameUp fr fr' ∧ FS g₀ s₀ env ro m (fr' ++ own) g s' := by
  obtain ⟨fr', SU, hg⟩ := PyProof.Rows.TI.sameUp_of (h' := s'.heap) (frs := fr) fun p hp => u p (.tail _ hp)
  obtain ⟨sl, hL⟩ := u _ (.head _)
  have nd := F.ownNd
  rw [List.map_append, List.nodup_append, List.map_append, List.nodup_append] at nd
  refine ⟨fr', SU, FS.backSelf (oL' := { oL with slots := sl }) F ho ⟨⟨?_, k, Kp.refl _, fun a o e => k a o ?_, fun _ _ e => e⟩, fun p hp => ?_, ?_⟩ ⟨sl, rfl⟩⟩
  · obtain ⟨h, t, rfl⟩ := same; exact ⟨h, t, rfl⟩
  · refine hideS_not ?_ (F.kp _ _ e)
    rw [List.map_cons, List.mem_cons, not_or]
    refine ⟨fun q => (by rw [q, F.locNew.2] at e; cases e), fun q => ?_⟩
    obtain ⟨p, hp, rfl⟩ := List.mem_map.mp q
    rw [(F.mine p (List.mem_append_left _ hp)).2.2.1] at e; cases e
  · rcases List.mem_cons.mp hp with rfl | hp
    · exact ⟨hL, by rw [hideS_get, if_pos (by simp)], F.locNew.2⟩
    · obtain ⟨q, hq, e⟩ := SU.fwd p hp
      refine ⟨hg p hp, ?_, ?_⟩
      · rw [e, hideS_get, if_pos]
        simp only [List.map_cons, List.map_append, List.contains_cons, List.contains_append, Bool.or_eq_true]
        exact .inr (.inl (List.contains_iff_mem.mpr (List.mem_map_of_mem hq)))
      · rw [e]; exact (F.mine q (List.mem_append_left _ (List.mem_append_left _ hq))).2.2.1
  · rw [List.map_cons, sameUp_addrs SU, List.nodup_cons]
    refine ⟨fun q => ?_, nd.1.1⟩
    obtain ⟨p, hp, e⟩ := List.mem_map.mp q
    exact (F.mine p (List.mem_append_left _ (List.mem_append_left _ hp))).2.2.2.1 e
end
end Mine
end

section
set_option maxRecDepth 100000
set_option autoImplicit false
set_option linter.unusedVariables false
set_option linter.unusedSimpArgs false
open PySem PySem.W PyProof.Rows
namespace Mine
open PyProof.Rows.TI (Frs SameUp)
/-! c3 in plain words -/
def rej (all : List (List Ag)) (c : Ag) : Bool := all.any fun s => s.tail.contains c
def pick (all : List (List Ag)) : Option Ag := (all.filterMap List.head?).find? fun c => !rej all c
def step (c : Ag) (s : List Ag) : List Ag := if s.head? = some c then s.tail else s
def c3 : Nat → List (List Ag) → Option (List Ag)
  | 0, _ => none
  | n + 1, xss =>
    if (xss.filter fun s => !s.isEmpty).isEmpty then some [] else
    match pick (xss.filter fun s => !s.isEmpty) with
    | none => none
    | some c => (c3 n ((xss.filter fun s => !s.isEmpty).map (step c))).map (c :: ·)
def tot : List (List Ag) → Nat
  | [] => 0
  | x :: r => x.length + tot r
theorem tot_filter : ∀ xss : List (List Ag), tot (xss.filter fun s => !s.isEmpty) = tot xss
  | [] => rfl
  | x :: r => by
    cases x with
    | nil => simpa [tot] using tot_filter r
    | cons a b => simp [List.filter_cons, tot, tot_filter r]
theorem tot_step_le (c : Ag) : ∀ xss : List (List Ag), tot (xss.map (step c)) ≤ tot xss
  | [] => Nat.le_refl _
  | x :: r => by
    have := tot_step_le c r
    have h : (step c x).length ≤ x.length := by unfold step; split <;> simp
    simp only [List.map_cons, tot]; omega
theorem tot_step_lt (c : Ag) : ∀ xss : List (List Ag), c ∈ xss.filterMap List.head? → tot (xss.map (step c)) < tot xss
  | [], h => nomatch h
  | x :: r, h => by
    have e1 := tot_step_le c r
    have e2 : (step c x).length ≤ x.length := by unfold step; split <;> simp
    simp only [List.map_cons, tot]
    rw [List.filterMap_cons] at h
    cases x with
    | nil => have := tot_step_lt c r h; omega
    | cons a b =>
      simp only [List.head?_cons, List.mem_cons] at h
      rcases h with rfl | h
      · simp only [step, List.head?_cons, if_true, List.tail_cons, List.length_cons]; omega
      · have := tot_step_lt c r h; omega
theorem pick_mem {all : List (List Ag)} {c : Ag} (h : pick all = some c) : c ∈ all.filterMap List.head? := List.mem_of_find?_eq_some h
theorem find_at (p : Ag → Bool) : ∀ (l : List (List Ag)) (i : Nat) (q : List Ag) (c : Ag), l[i]? = some q → q.head? = some c → p c = true → (∀ j < i, ∀ q', l[j]? = some q' → ∀ c', q'.head? = some c' → p c' = false) → (l.filterMap List.head?).find? p = some c
  | [], i, q, c, h, _, _, _ => by simp at h
  | x :: r, 0, q, c, h, hc, hp, _ => by
    simp only [List.getElem?_cons_zero, Option.some.injEq] at h
    subst h
    rw [List.filterMap_cons, hc]
    simp [List.find?_cons, hp]
  | x :: r, i + 1, q, c, h, hc, hp, ha => by
    have ih := find_at p r i q c (by simpa using h) hc hp fun j hj q' hq' c' hc' => ha (j + 1) (by omega) q' (by simpa using hq') c' hc'
    rw [List.filterMap_cons]
    cases hx : x.head? with
    | none => exact ih
    | some c' =>
      have := ha 0 (by omega) x rfl c' hx
      simp [List.find?_cons, this, ih]
theorem pick_at {all : List (List Ag)} {i : Nat} {q : List Ag} {c : Ag} (h : all[i]? = some q) (hc : q.head? = some c) (hp : rej all c = false) (ha : ∀ j < i, ∀ q', all[j]? = some q' → ∀ c', q'.head? = some c' → rej all c' = true) : pick all = some c :=
  find_at _ all i q c h hc (by simp [hp]) fun j hj q' hq' c' hc' => by simp [ha j hj q' hq' c' hc']
theorem pick_none {all : List (List Ag)} (ha : ∀ (j : Nat) (q' : List Ag), all[j]? = some q' → ∀ c', q'.head? = some c' → rej all c' = true) : pick all = none := by
  unfold pick
  rw [List.find?_eq_none]
  intro c hc
  obtain ⟨q, hq, e⟩ := List.mem_filterMap.mp hc
  obtain ⟨j, hj⟩ := List.getElem?_of_mem hq
  simp [ha j q hj c e]

theorem len_le_tot : ∀ {xss : List (List Ag)} {x : List Ag}, x ∈ xss → x.length ≤ tot xss
  | y :: r, x, h => by
    rcases List.mem_cons.mp h with rfl | h
    · unfold tot; omega
    · have := len_le_tot h; unfold tot; omega

/-- a sequence that is owned: its address, its items, its age -/
abbrev Sq := Addr × List (Ag × Tok) × Nat
abbrev so (q : Sq) : Addr × Obj := (q.1, lo (q.2.1.map sv) q.2.2)
abbrev sx (q : Sq) : List Ag := q.2.1.map (·.1)
abbrev sr (q : Sq) : Value := .ref q.1

section
variable {g₀ g : Heap} {s₀ s : Shared} {env : Env} {ro : List Str} {m : Str → Option Value} {own pre post : List (Addr × Obj)}
theorem FS.sub {own' : List (Addr × Obj)} (F : FS g₀ s₀ env ro m own g s) (h : own'.Sublist own) : FS g₀ s₀ env ro m own' g s := F.less (fun _ hp => h.subset hp) ((h.map _).nodup F.ownNd)
/-- one of the own objects changes -/
theorem FS.updMid {a : Addr} {o o' : Obj} {tk : Nat} {h' : Heap} (F : FS g₀ s₀ env ro m (pre ++ (a, o) :: post) g s) (hs : Heap.ExtBut a s.heap h') (ho : h'.get? a = some o') :
    FS g₀ s₀ env ro m (pre ++ (a, o') :: post) g { s with heap := h', toks := tk } :=
  ((F.perm List.perm_middle).upd (tk := tk) hs ho).perm List.perm_middle.symm
end
section
variable {prog : Program} {w : World} {A : Around} {E : Value → Shared → Prop} {g₀ g : Heap} {s₀ s sx : Shared} {env : Env} {ro : List Str} {m : Str → Option Value} {own : List (Addr × Obj)}
section
variable {elt iter : Expr} {x : Str} {px : Pos} {ifs : List Expr} {scope : Scope} {pos : Pos} {n : Nat} {P : Nat → Value → Prop} {J : Nat → List Value → Heap → Prop}
theorem comp_evalF {Q : Value → Shared → Prop} (F : FS g₀ s₀ env ro m own g sx) (hks : scope.kind = .function) (hke : env.scope.kind = .function) (hnd : (scope.names.map (·.1)).Nodup) (hfree : (scope.names.all fun x => x.2 != .free || (env.cells.lookup x.1).isSome) = true)
    (hx : ∀ C, (cEnv scope C env).kindOf x = some .local ∨ ((cEnv scope C env).kindOf x = some .cell ∧ x ∉ cRo scope)) (hJm : ∀ ys g g', Kp g g' → J n ys g → J n ys g')
    (h : wpAny (model prog w) A (eval iter env) (fun xv s₁ => ∃ g₁ : Heap, FS g₀ s₀ env ro m own g₁ s₁ ∧ Src prog w A g₁ s₁ xv n P ∧ n ≤ sizeLine ∧ J 0 [] g₁ ∧
      (∀ C, s₁.heap.objs.size ≤ C → CTurn prog w A g₁ s₁ (cEnv scope C env) (cRo scope) (cMap scope m) x ifs elt n P J) ∧
      ∀ D ys g' s', FS g₀ s₀ env ro m own g' s' → Kp g₁ g' → LL g' D ys → J n ys g' → Q (.ref D) s') E s)
    (hs : ∀ x, foldedSetIterable iter env x = pure x := by intro _; rfl) :
    wpAny (model prog w) A (eval (.ListComp elt [⟨.Name x px, iter, ifs, 0⟩] scope pos) env) Q E s := comp_eval hks hke hnd hfree hx hJm h hs
theorem comp_assignF {t : Str} {pt spos : Pos} {Q : Flow → Shared → Prop} (F : FS g₀ s₀ env ro m own g sx) (hks : scope.kind = .function) (hke : env.scope.kind = .function) (hnd : (scope.names.map (·.1)).Nodup) (hfree : (scope.names.all fun x => x.2 != .free || (env.cells.lookup x.1).isSome) = true)
    (hx : ∀ C, (cEnv scope C env).kindOf x = some .local ∨ ((cEnv scope C env).kindOf x = some .cell ∧ x ∉ cRo scope)) (hJm : ∀ ys g g', Kp g g' → J n ys g → J n ys g')
    (ht : env.kindOf t = some .local) (hsw : swapsWith (.ListComp elt [⟨.Name x px, iter, ifs, 0⟩] scope pos) (some (.Name t pt)) spos.line env = pure true)
    (h : wpAny (model prog w) A (eval iter env) (fun xv s₁ => ∃ g₁ : Heap, FS g₀ s₀ env ro m own g₁ s₁ ∧ Src prog w A g₁ s₁ xv n P ∧ n ≤ sizeLine ∧ J 0 [] g₁ ∧
      (∀ C, s₁.heap.objs.size ≤ C → CTurn prog w A g₁ s₁ (cEnv scope C env) (cRo scope) (cMap scope m) x ifs elt n P J) ∧
      ∀ D ys g' s', FS g₀ s₀ env ro (put m t (.ref D)) own g' s' → Kp g₁ g' → LL g' D ys → J n ys g' → Q .next s') E s)
    (hs : ∀ x, foldedSetIterable iter env x = pure x := by intro _; rfl) :
    wpAny (model prog w) A (exec (.Assign [.Name t pt] (.ListComp elt [⟨.Name x px, iter, ifs, 0⟩] scope pos) spos) env) Q E s := comp_assign hks hke hnd hfree hx hJm ht hsw h hs
end
theorem for_stmtF {Q : Flow → Shared → Prop} {x : Str} {px pos : Pos} {iter : Expr} {body orelse : List Stmt} {n : Nat} {P : Nat → Value → Prop} (F : FS g₀ s₀ env ro m own g sx) (Inv : Nat → (Str → Option Value) → List (Addr × Obj) → Heap → Prop)
    (hk : env.scope.kind = .function) (hx : env.kindOf x = some .local ∨ (env.kindOf x = some .cell ∧ x ∉ ro))
    (h : wpAny (model prog w) A (eval iter env) (fun xv s₁ => ∃ g₁ m₁ own₁, FS g₀ s₀ env ro m₁ own₁ g₁ s₁ ∧ Src prog w A g₁ s₁ xv n P ∧ Inv 0 m₁ own₁ g₁ ∧
      (∀ (k : Nat) (v : Value) (p : Addr × Obj) (m' : Str → Option Value) (own' : List (Addr × Obj)) (g' : Heap) (s' : Shared) (E' : Value → Shared → Prop), k < n → P k v → Kp g₁ g' → Inv k m' own' g' → FS g₀ s₀ env ro (put m' x v) (p :: own') g' s' →
        wpAny (model prog w) A (execs body env) (fun fl s₁ => match fl with
          | .next | .cont => ∃ m₁ own₁ g₁, FS g₀ s₀ env ro m₁ (p :: own₁) g₁ s₁ ∧ Kp g' g₁ ∧ Inv (k + 1) m₁ own₁ g₁
          | .brk => Q .next s₁
          | .ret v => Q (.ret v) s₁) E' s') ∧
      (∀ (m' : Str → Option Value) (own' : List (Addr × Obj)) (g' : Heap) (s' : Shared) (E' : Value → Shared → Prop), Kp g₁ g' → Inv n m' own' g' → FS g₀ s₀ env ro m' own' g' s' → wpAny (model prog w) A (execs orelse env) (fun f s₃ => Q f s₃) E' s')) E s)
    (hs : ∀ x, foldedSetIterable iter env x = pure x := by intro _; rfl) : wpAny (model prog w) A (exec (.For (.Name x px) iter body orelse pos) env) Q E s := for_stmt Inv hk hx h hs
end
end Mine
end

section
set_option maxRecDepth 100000
set_option autoImplicit false
set_option linter.unusedVariables false
open PySem PySem.W PyProof.Rows
namespace Mine
open PyProof.Rows.TI (Frs SameUp)
local macro_rules | `(tactic| walk_at "body") => `(tactic| (unfold bodyAt; conv => (arg 3; arg 1; whnf)))
local macro_rules | `(tactic| walk_at "bind") => `(tactic| (refine BindsTo.of_eq ?_; unfold fdAt; (conv => lhs; arg 1; whnf); rfl))
section
variable {prog : Program} {w : World} {A : Around} {E : Value → Shared → Prop} {g₀ g : Heap} {s₀ s s' : Shared} {env : Env} {ro : List Str} {m : Str → Option Value} {own lent lent' : List (Addr × Obj)}

/-- what a turn of the loop of _c3_merge begins with -/
def C3Inv (g : Heap) (s : Shared) (lent : List (Addr × Obj)) (env : Env) (fr : List (Addr × Obj)) (want : Option (List Ag)) (R : Addr) (n : Nat) (s' : Shared) : Prop :=
  ∃ (D : Addr) (qs : List Sq) (rs : List (Ag × Tok)) (nr : Nat) (m' : Str → Option Value) (g' : Heap), tot (qs.map sx) < n ∧ want = (c3 n (qs.map sx)).map (rs.map (·.1) ++ ·) ∧ m' (Str.ofString "sequences") = some (.ref D) ∧ m' (Str.ofString "result") = some (.ref R) ∧
    LL g' D (qs.map sr) ∧ Kp g g' ∧ rs.length + tot (qs.map sx) ≤ 1000 ∧ qs.length ≤ 1000 ∧ FS g (hideS lent s) env [] m' ((R, lo (rs.map sv) nr) :: (qs.map so ++ fr)) g' s'

theorem c3_ok {S : Addr} {qs : List Sq} {fr : List (Addr × Obj)} {l : List Env} {N : Nat} {R : Result → Shared → Prop} (L : Ld w g) (k : Kp g s.heap) (rm : Rm 4 A) (hfr : A.frames = some l) (Fs : Frs l fr)
    (hl : ∀ p ∈ qs.map so ++ fr, s.heap.get? p.1 = some p.2 ∧ g.get? p.1 = none) (hnd : ((qs.map so ++ fr).map (·.1)).Nodup) (hS : LL g S (qs.map sr)) (hz : tot (qs.map sx) ≤ 1000) (hz2 : qs.length ≤ 1000) (hN : tot (qs.map sx) < N)
    (hok : ∀ r g' s' c, c3 N (qs.map sx) = some r → Ret g s (qs.map so ++ fr) fr g' s' → LS g' c r → R (.ok (.ret (.ref c))) s')
    (hno : ∀ e a0 s', c3 N (qs.map sx) = none → (∃ h tk, s' = { s with heap := h, toks := tk }) → Heap.FlyingW (hideS (qs.map so ++ fr) s).heap l e (.type "RuntimeError") a0 s'.heap → (∀ p ∈ fr, ∃ sl, s'.heap.get? p.1 = some { p.2 with slots := sl }) → R (.error (.ref e)) s') :
    codeAny (model prog w) A (.call (.ref 35) ⟨[.ref S], []⟩) R s := by
  refine call_at 35 (binds := [(Str.ofString "sequences", .ref S)]) (qs.map so ++ fr) L k hl hnd rm.room rfl rfl rfl (by walk_at "bind") rfl rfl rfl rfl rfl fun s₁ F => ?_
  walk_at "body"
  have rm1 : Rm 3 (A.deeper (envAt w 35 s.heap.objs.size)) := rm.deeper
  refine wpAny_execs_cons (wpAny_Assign_Name (List_ (spliced_none (newList_F F fun Rr s₂ F => ?_))) rfl)
  refine stF F rfl (.inl rfl) fun s₃ F => ?_
  refine wpAny_execs_cons (wpAny_While ?_)
  refine codeAny_whileLoop (C3Inv g s (qs.map so ++ fr) (envAt w 35 s.heap.objs.size) fr (c3 N (qs.map sx)) Rr) (fun n s₄ h => ?_) N ⟨S, qs, [], 0, _, g, hN, ?_, rfl, rfl, hS, Kp.refl _, by simpa using hz, hz2, F⟩
  · clear F
    obtain ⟨D, qs', rs, nr, m', g', hn, hw, m1, m2, hD, kg, hz', hz2', F⟩ := h
    refine wpAny_isTrue_value (cBool (wpAny_truthy_bool ?_))
    rw [if_pos rfl]
    -- sequences = [s for s in sequences if s]
    refine wpAny_execs_cons (comp_assignF F (n := (qs'.map sr).length) (P := fun k v => (qs'.map sr)[k]? = some v) (J := fun k ys _ => ys = ((qs'.take k).filter fun q => !q.2.1.isEmpty).map sr) rfl rfl (by decide) rfl (fun C => .inl rfl) (fun _ _ _ _ h => h) rfl rfl (nmF F rfl (.inl rfl) m1 ?_))
    refine ⟨g', F, Src.list rm1.hh F.kp hD, by rw [sizeLine_eq, List.length_map]; omega, rfl, fun C hC => ?_, fun D2 ys g2 s₅ F2 k2 hD2 hJ => ?_⟩
    · intro i v ys own g1 s5 E' hi hP kg1 hJ Fc
      rw [List.length_map] at hi
      rw [List.getElem?_map, List.getElem?_eq_getElem hi] at hP
      have hP : sr qs'[i] = v := by simpa using hP
      subst hP
      have hmem : so qs'[i] ∈ (Rr, lo (rs.map sv) nr) :: (qs'.map so ++ fr) := .tail _ (List.mem_append_left _ (List.mem_map.mpr ⟨_, List.getElem_mem hi, rfl⟩))
      refine wpAny_tests_one (wpAny_isTrue_value (nmF Fc rfl (.inl rfl) rfl (truthy_G ⟨_, Fc.grow.kp _ _ (F.ownGet hmem)⟩ (fun t => ?_) ?_)))
      · subst hJ
        have key : ((qs'.take (i + 1)).filter fun q : Sq => !q.2.1.isEmpty) = ((qs'.take i).filter fun q : Sq => !q.2.1.isEmpty) ++ (if !(qs'[i]).2.1.isEmpty then [qs'[i]] else []) := by
          rw [List.take_add_one, List.getElem?_eq_getElem hi, List.filter_append]; simp [List.filter_cons]
        cases hb : (qs'[i]).2.1.isEmpty with
        | true =>
          have hb' : ((qs'[i]).2.1.map sv).isEmpty = true := by simpa using hb
          rw [hb', if_neg (by decide)]
          refine ⟨g1, Fc.tok t, Kp.refl _, ?_⟩
          show _ = _
          rw [key, hb]; simp
        | false =>
          have hb' : ((qs'[i]).2.1.map sv).isEmpty = false := by simpa using hb
          rw [hb', if_pos (by decide)]
          refine nmF (Fc.tok t) rfl (.inl rfl) rfl ⟨g1, Fc.tok t, Kp.refl _, ?_⟩
          show _ = _
          rw [key, hb]; simp
      · have := len_le_tot (List.mem_map_of_mem (f := sx) (List.getElem_mem hi))
        rw [sizeLine_eq]; simp at this ⊢; omega
    have hJ : ys = ((qs'.take (qs'.map sr).length).filter fun q : Sq => !q.2.1.isEmpty).map sr := hJ
    rw [List.length_map, List.take_length] at hJ
    subst hJ
    generalize hq1 : (qs'.filter fun q : Sq => !q.2.1.isEmpty) = qs1 at hD2
    have e1 : (qs'.map sx).filter (fun x => !x.isEmpty) = qs1.map sx := by
      rw [List.filter_map, ← hq1]
      congr 1
      apply List.filter_congr
      intro q _
      simp
    have e2 : tot (qs1.map sx) = tot (qs'.map sx) := by rw [← e1, tot_filter]
    have hne : ∀ q ∈ qs1, q.2.1 ≠ [] := fun q hq => by
      rw [← hq1, List.mem_filter] at hq
      have := hq.2
      simpa using this
    have F3 := F2.sub (own' := (Rr, lo (rs.map sv) nr) :: (qs1.map so ++ fr)) (.cons_cons _ (.append (by rw [← hq1]; exact List.filter_sublist.map _) (.refl _)))
    have hz3 : qs1.length ≤ 1000 := by rw [← hq1]; exact Nat.le_trans (List.length_filter_le _ _) hz2'
    clear F F2 hq1
    obtain ⟨n, rfl⟩ : ∃ n', n = n' + 1 := ⟨n - 1, by omega⟩
    rw [c3, e1] at hw
    have kg2 := kg.trans k2
    clear hD kg k2
    -- if not sequences
    refine wpAny_execs_cons (wpAny_If (wpAny_isTrue_Not (wpAny_isTrue_value (nmF F3 rfl (.inl rfl) rfl (truthy_G (hD2.mono F3.kp) (fun t => ?_) (by rw [sizeLine_eq, List.length_map]; omega))))))
    have F := F3.tok t
    clear F3
    cases hqe : qs1 with
    | nil =>
      subst hqe
      rw [if_pos (by decide)]
      refine wpAny_execs_cons (wpAny_Return_some (nmF F rfl (.inl rfl) m2 ?_))
      obtain ⟨g3, F, k3, e3⟩ := F.freeze
      refine hok (rs.map (·.1)) g3 _ Rr ?_ F.ret ⟨rs, rfl, nr, e3⟩
      rw [hw]; simp
    | cons q0 qr =>
      rw [if_neg (by simp)]
      refine wpAny_execs_nil ?_
      have hi1 : (qs1.map sx).isEmpty = false := by rw [hqe]; rfl
      have hpos : 0 < qs1.length := by rw [hqe]; simp
      rw [hi1, if_neg (by decide)] at hw
      clear hqe
      have hsz : ∀ q ∈ qs1, q.2.1.length ≤ 1000 := fun q hq => by
        have := len_le_tot (List.mem_map_of_mem (f := sx) hq)
        simp only [List.length_map] at this
        omega
      -- the heads
      refine wpAny_execs_cons (wpAny_mono (Q := fun f s' => f = .next ∧ ∃ m'' g'', FS g (hideS (qs.map so ++ fr) s) (envAt w 35 s.heap.objs.size) [] m'' ((Rr, lo (rs.map sv) nr) :: (qs1.map so ++ fr)) g'' s' ∧ Kp g2 g'' ∧ m'' (Str.ofString "sequences") = some (.ref D2) ∧ m'' (Str.ofString "result") = some (.ref Rr) ∧
        ((pick (qs1.map sx) = none ∧ m'' (Str.ofString "candidate") = some .none) ∨ ∃ c t, pick (qs1.map sx) = some c ∧ m'' (Str.ofString "candidate") = some (.str (nm c) t))) ?_ ?_ fun _ _ e => e)
      · refine for_stmtF F (n := (qs1.map sr).length) (P := fun k v => (qs1.map sr)[k]? = some v) (fun k m own _ => own = (Rr, lo (rs.map sv) nr) :: (qs1.map so ++ fr) ∧ m (Str.ofString "sequences") = some (.ref D2) ∧ m (Str.ofString "result") = some (.ref Rr) ∧
          (∀ j < k, ∀ q', (qs1.map sx)[j]? = some q' → ∀ c', q'.head? = some c' → rej (qs1.map sx) c' = true) ∧ (0 < k → m (Str.ofString "candidate") = some .none)) rfl (.inl rfl)
          (nmF F rfl (.inl rfl) rfl ⟨g2, _, _, F, Src.list rm1.hh F.kp hD2, ⟨rfl, rfl, m2, fun j hj => absurd hj (Nat.not_lt_zero _), fun h => absurd h (Nat.lt_irrefl _)⟩, ?_, ?_⟩)
        · intro i v p m3 own3 g3 s6 E' hi hP kg3 hI F
          obtain ⟨rfl, i1, i2, i3, i4⟩ := hI
          rw [List.length_map] at hi
          rw [List.getElem?_map, List.getElem?_eq_getElem hi] at hP
          have hP : sr qs1[i] = v := by simpa using hP
          subst hP
          have hm : qs1[i] ∈ qs1 := List.getElem_mem hi
          have hmo : ∀ q ∈ qs1, so q ∈ p :: (Rr, lo (rs.map sv) nr) :: (qs1.map so ++ fr) := fun q hq => .tail _ (.tail _ (List.mem_append_left _ (List.mem_map_of_mem hq)))
          obtain ⟨pc, pr, hpc⟩ : ∃ pc pr, (qs1[i]).2.1 = pc :: pr := by
            cases hq : (qs1[i]).2.1 with
            | nil => exact absurd hq (hne _ hm)
            | cons a b => exact ⟨a, b, rfl⟩
          refine wpAny_execs_cons (wpAny_Assign_Name (Subscript_ (nmF F rfl (.inl rfl) rfl (cInt F fun t s7 F e7 => item_G (vs := (qs1[i]).2.1.map sv) ⟨_, F.ownGet (hmo _ hm)⟩ (by decide) (v := sv pc) (by rw [hpc]; rfl) (stF F rfl (.inl rfl) fun s8 F => ?_)))) rfl)
          -- for s2
          refine wpAny_execs_cons (for_stmtF F (n := (qs1.map sr).length) (P := fun k v => (qs1.map sr)[k]? = some v) (fun k m own _ => own = p :: (Rr, lo (rs.map sv) nr) :: (qs1.map so ++ fr) ∧ m (Str.ofString "sequences") = some (.ref D2) ∧ m (Str.ofString "result") = some (.ref Rr) ∧ m (Str.ofString "candidate") = some (sv pc) ∧
            (∀ j < k, ∀ q', (qs1.map sx)[j]? = some q' → q'.tail.contains pc.1 = false)) rfl (.inl rfl)
            (nmF F rfl (.inl rfl) i1 ⟨g3, _, _, F, Src.list rm1.hh F.kp (hD2.mono kg3), ⟨rfl, i1, i2, rfl, fun j hj => absurd hj (Nat.not_lt_zero _)⟩, ?_, ?_⟩))
          · intro j v2 p2 m4 own4 g4 s9 E2 hj hP2 kg4 hI F
            obtain ⟨rfl, j1, j2, j3, j4⟩ := hI
            rw [List.length_map] at hj
            rw [List.getElem?_map, List.getElem?_eq_getElem hj] at hP2
            have hP2 : sr qs1[j] = v2 := by simpa using hP2
            subst hP2
            have hmj : qs1[j] ∈ qs1 := List.getElem_mem hj
            obtain ⟨qc, qr, hqc⟩ : ∃ qc qr, (qs1[j]).2.1 = qc :: qr := by
              cases hq : (qs1[j]).2.1 with
              | nil => exact absurd hq (hne _ hmj)
              | cons a b => exact ⟨a, b, rfl⟩
            refine wpAny_execs_cons (wpAny_If (wpAny_isTrue_Compare1 (nmF F rfl (.inl rfl) j3 (slice_G (nmF F rfl (.inl rfl) rfl (wpAny_evalPart_some (cInt F fun t s10 F e10 => wpAny_evalPart_none ?_)))))))
            refine ⟨g4, (qs1[j]).1, (qs1[j]).2.1.map sv, some 1, none, rfl, F.kp, ⟨_, F.ownGet (.tail _ (hmo _ hmj))⟩, by rw [sizeLine_eq, List.length_map]; have := hsz _ hmj; omega, .int _ _, .none, fun g5 c5 s11 G hc => ?_⟩
            have hc : LL g5 c5 (qr.map sv) := by
              rw [hqc] at hc
              have e := slicePick_from ((qc :: qr).map sv).toArray 1 (by simp)
              rw [show ((1 : Nat) : Int) = 1 from rfl] at e
              rw [e] at hc
              simpa using hc
            have F := F.on G
            refine in_G (hc.mono F.kp) (wpAny_truthy_bool ?_)
            cases hb : (qr.map (·.1)).contains pc.1 with
            | true =>
              rw [if_pos rfl]
              refine wpAny_execs_cons (wpAny_Assign_Name (cNone (stF F rfl (.inl rfl) fun s12 F => ?_)) rfl)
              refine wpAny_execs_cons (wpAny_Break (wpAny_execs_nil ?_))
              refine ⟨_, _, g5, F.tail, kg4.trans G.gg, rfl, j1, j2, fun j' hj' q' hq' c' hc' => ?_, fun _ => rfl⟩
              rcases Nat.lt_succ_iff_lt_or_eq.mp hj' with hlt | rfl
              · exact i3 j' hlt q' hq' c' hc'
              · rw [List.getElem?_map, List.getElem?_eq_getElem hi] at hq'
                simp only [Option.map_some, Option.some.injEq] at hq'
                subst hq'
                rw [sx, hpc] at hc'
                simp only [List.map_cons, List.head?_cons, Option.some.injEq] at hc'
                subst hc'
                unfold rej
                rw [List.any_eq_true]
                exact ⟨sx qs1[j], List.mem_map_of_mem hmj, by rw [sx, hqc]; exact hb⟩
            | false =>
              rw [if_neg (by decide)]
              refine wpAny_execs_nil (wpAny_execs_nil ⟨_, _, g5, F, G.gg, rfl, j1, j2, j3, fun j' hj' q' hq' => ?_⟩)
              rcases Nat.lt_succ_iff_lt_or_eq.mp hj' with hlt | rfl
              · exact j4 j' hlt q' hq'
              · rw [List.getElem?_map, List.getElem?_eq_getElem hj] at hq'
                simp only [Option.map_some, Option.some.injEq] at hq'
                subst hq'
                rw [sx, hqc]; exact hb
          · intro m4 own4 g4 s9 E2 kg4 hI F
            obtain ⟨rfl, j1, j2, j3, j4⟩ := hI
            refine wpAny_execs_cons (wpAny_Break ⟨rfl, m4, g4, F.tail, kg3.trans kg4, j1, j2, .inr ⟨pc.1, pc.2, ?_, j3⟩⟩)
            refine pick_at (i := i) (q := sx qs1[i]) (by rw [List.getElem?_map, List.getElem?_eq_getElem hi]; rfl) (by rw [sx, hpc]; rfl) ?_ i3
            unfold rej
            rw [List.any_eq_false]
            intro x hx
            obtain ⟨j', hj'⟩ := List.getElem?_of_mem hx
            have hlt : j' < (qs1.map sr).length := by
              have := (List.getElem?_eq_some_iff.mp hj').1
              simpa using this
            rw [j4 j' hlt x hj']; decide
        · intro m4 own4 g4 s9 E2 kg4 hI F
          obtain ⟨rfl, j1, j2, j3, j4⟩ := hI
          refine wpAny_execs_nil ⟨rfl, m4, g4, F, kg4, j1, j2, .inl ⟨pick_none fun j' q' hj' => ?_, j4 (by simpa using hpos)⟩⟩
          have hlt : j' < (qs1.map sr).length := by
            have := (List.getElem?_eq_some_iff.mp hj').1
            simpa using this
          exact j3 j' hlt q' hj'
      · clear F m1 m2
        rintro f s6 ⟨rfl, m4, g4, F, kg4, m1, m2, hpk⟩
        rcases hpk with ⟨hpk, mc⟩ | ⟨c, tc, hpk, mc⟩
        · refine wpAny_execs_cons (wpAny_If (wpAny_isTrue_Compare1 (nmF F rfl (.inl rfl) mc (cNone (wpAny_is_self rfl (wpAny_truthy_bool ?_))))))
          rw [if_pos rfl]
          refine wpAny_execs_cons (Raise_madeB PySem.F.excCall_RuntimeError PySem.F.excRaise_RuntimeError rm1.hh (blF (L.mono (kg2.trans (kg4.trans F.kp))) rfl rfl rfl rfl rfl PyProof.Rows.Boot.RuntimeError ⟨rfl, spliced_more (cStr F fun t2 s7 F e7 => spliced_none ⟨by rw [sizeLine_eq]; exact (by decide : 1 ≤ 16777216), fun h' e hx => ?_⟩)⟩))
          refine raise_out (s₂ := { s7 with heap := h' }) F hfr Fs (fun p hp => .tail _ (List.mem_append_right _ hp)) rfl rfl hx fun h2 a0 hfl u => hno e a0 _ ?_ ?_ hfl fun p hp => ?_
          · rw [hw, hpk]; rfl
          · obtain ⟨h3, t3, e3⟩ := F.grow.same
            exact ⟨h2, s7.toks, by rw [e3]; rfl⟩
          · refine u p.1 p.2 (F.ownGet (.tail _ (List.mem_append_right _ hp))) fun vs q => ?_
            obtain ⟨es, ep, hd⟩ := Fs.dict p hp
            rw [hd] at q; cases q
        · refine wpAny_execs_cons (wpAny_If (wpAny_isTrue_Compare1 (nmF F rfl (.inl rfl) mc (cNone (wpAny_is_other rfl (fun q => by cases q) (wpAny_truthy_bool ?_))))))
          rw [if_neg (by decide)]
          refine wpAny_execs_nil ?_
          refine wpAny_execs_cons (wpAny_Expr (MethodCall_ (nmF F rfl (.inl rfl) m2 (getMethod_G PySem.F.slot_list_append PySem.F.type_list_append ⟨_, F.ownGet (.head _)⟩ (callWith_method1 (spliced_more (nmF F rfl (.inl rfl) mc (spliced_none (append_F F (fun nr2 s7 F => ?_) (by rw [sizeLine_eq, List.length_map]; omega))))) rfl rfl))) rfl) rfl rfl)
          rw [show rs.map sv ++ [Value.str (nm c) tc] = (rs ++ [(c, tc)]).map sv from by simp] at F
          -- the candidate leaves
          refine wpAny_execs_cons (for_stmtF F (n := (qs1.map sr).length) (P := fun k v => (qs1.map sr)[k]? = some v) (fun k m own _ => m (Str.ofString "sequences") = some (.ref D2) ∧ m (Str.ofString "result") = some (.ref Rr) ∧ m (Str.ofString "candidate") = some (.str (nm c) tc) ∧
            ∃ qs2 : List Sq, qs2.map (·.1) = (qs1.take k).map (·.1) ∧ qs2.map sx = ((qs1.take k).map sx).map (step c) ∧ own = (Rr, lo ((rs ++ [(c, tc)]).map sv) nr2) :: ((qs2 ++ qs1.drop k).map so ++ fr)) rfl (.inl rfl)
            (nmF F rfl (.inl rfl) m1 ⟨g4, _, _, F, Src.list rm1.hh F.kp (hD2.mono kg4), ⟨m1, m2, mc, [], rfl, rfl, rfl⟩, ?_, ?_⟩))
          · intro i v p m5 own5 g5 s8 E2 hi hP kg5 hI F
            obtain ⟨i1, i2, i3, qs2, i4, i5, rfl⟩ := hI
            rw [List.length_map] at hi
            rw [List.getElem?_map, List.getElem?_eq_getElem hi] at hP
            have hP : sr qs1[i] = v := by simpa using hP
            subst hP
            have hm : qs1[i] ∈ qs1 := List.getElem_mem hi
            obtain ⟨pc, pr, hpc⟩ : ∃ pc pr, (qs1[i]).2.1 = pc :: pr := by
              cases hq : (qs1[i]).2.1 with
              | nil => exact absurd hq (hne _ hm)
              | cons a b => exact ⟨a, b, rfl⟩
            have htk : qs1.take (i + 1) = qs1.take i ++ [qs1[i]] := by rw [List.take_add_one, List.getElem?_eq_getElem hi]; rfl
            have hown : p :: (Rr, lo ((rs ++ [(c, tc)]).map sv) nr2) :: ((qs2 ++ qs1.drop i).map so ++ fr) = (p :: (Rr, lo ((rs ++ [(c, tc)]).map sv) nr2) :: qs2.map so) ++ so qs1[i] :: ((qs1.drop (i + 1)).map so ++ fr) := by
              rw [List.drop_eq_getElem_cons hi]; simp only [List.map_append, List.map_cons, List.cons_append, List.append_assoc]
            rw [hown] at F
            have hget : so qs1[i] ∈ (p :: (Rr, lo ((rs ++ [(c, tc)]).map sv) nr2) :: qs2.map so) ++ so qs1[i] :: ((qs1.drop (i + 1)).map so ++ fr) := List.mem_append_right _ (.head _)
            refine wpAny_execs_cons (wpAny_If (wpAny_isTrue_Compare1 (Subscript_ (nmF F rfl (.inl rfl) rfl (cInt F fun t s9 F e9 => item_G (vs := (qs1[i]).2.1.map sv) ⟨_, F.ownGet hget⟩ (by decide) (v := sv pc) (by rw [hpc]; rfl) (nmF F rfl (.inl rfl) i3 (PyProof.Rows.eq_str (wpAny_truthy_bool ?_))))))))
            rw [nm_eq]
            by_cases hcc : pc.1 = c
            · rw [decide_eq_true hcc, if_pos rfl]
              refine wpAny_execs_cons (wpAny_Delete (wpAny_deleteEach_cons (delete_Subscript (nmF F rfl (.inl rfl) rfl (cInt F fun t s10 F e10 => PyProof.Rows.delItem_at (k := 0) (F.ownGet hget) (by decide) (by rw [hpc]; simp [seqIndex?]) (fun h' hs ho' => wpAny_deleteEach_nil (wpAny_execs_nil (wpAny_execs_nil ?_))) (by rw [sizeLine_eq]; have := hsz _ hm; simp; omega))))))
              have e5 : (((qs1[i]).2.1.map sv).toArray.toList.eraseIdx 0).toArray = (pr.map sv).toArray := by rw [hpc]; rfl
              rw [e5] at ho'
              have F := F.updMid (tk := s10.toks) hs.extBut ho'
              refine ⟨_, _, g5, F, Kp.refl _, i1, i2, i3, qs2 ++ [((qs1[i]).1, pr, (qs1[i]).2.2 + 1)], ?_, ?_, ?_⟩
              · rw [htk, List.map_append, List.map_append, i4]; rfl
              · rw [htk]; simp only [List.map_append, i5]; congr 1; simp only [List.map_cons, List.map_nil, sx, hpc]; simp [step, hcc]
              · simp only [List.map_append, List.map_cons, List.map_nil, List.cons_append, List.nil_append, List.append_assoc]; rfl
            · rw [decide_eq_false hcc, if_neg (by decide)]
              refine wpAny_execs_nil (wpAny_execs_nil ⟨_, _, g5, F, Kp.refl _, i1, i2, i3, qs2 ++ [qs1[i]], ?_, ?_, ?_⟩)
              · rw [htk, List.map_append, List.map_append, i4]
              · rw [htk]; simp only [List.map_append, i5]; congr 1; simp only [List.map_cons, List.map_nil, sx, hpc]; simp [step, hcc]
              · simp only [List.map_append, List.map_cons, List.map_nil, List.cons_append, List.nil_append, List.append_assoc]; rfl
          · intro m5 own5 g5 s8 E2 kg5 hI F
            obtain ⟨i1, i2, i3, qs2, i4, i5, rfl⟩ := hI
            rw [List.length_map, List.take_length] at i4 i5
            rw [List.length_map, List.drop_length, List.append_nil] at F
            have hr : qs2.map sr = qs1.map sr := by
              have : (qs2.map (·.1)).map Value.ref = (qs1.map (·.1)).map Value.ref := by rw [i4]
              rw [List.map_map, List.map_map] at this; exact this
            have hlt := tot_step_lt c (qs1.map sx) (pick_mem hpk)
            refine wpAny_execs_nil (wpAny_execs_nil ⟨n, Nat.lt_succ_self _, D2, qs2, rs ++ [(c, tc)], nr2, m5, g5, ?_, ?_, i1, i2, ?_, kg2.trans (kg4.trans kg5), ?_, ?_, F⟩)
            · rw [i5]; omega
            · rw [hw, hpk, i5]
              dsimp only
              generalize c3 n ((qs1.map sx).map (step c)) = z
              cases z <;> simp
            · rw [hr]; exact (hD2.mono kg4).mono kg5
            · rw [i5, List.length_append, List.length_singleton]; omega
            · have := congrArg List.length i4; rw [List.length_map, List.length_map] at this; omega
  · cases hc : c3 N (qs.map sx) <;> simp
end
end Mine
end

section
set_option maxRecDepth 100000
set_option autoImplicit false
set_option linter.unusedVariables false
set_option linter.unusedSimpArgs false
open PySem PySem.W PyProof.Rows
namespace Mine
open PyProof.Rows.TI (Frs SameUp)
local macro_rules | `(tactic| walk_at "body") => `(tactic| (unfold bodyAt; conv => (arg 3; arg 1; whnf)))
local macro_rules | `(tactic| walk_at "bind") => `(tactic| (refine BindsTo.of_eq ?_; unfold fdAt; (conv => lhs; arg 1; whnf); rfl))

/-- two lists, item by item -/
def Pw {α β : Type} (R : α → β → Prop) (as : List α) (xs : List β) : Prop := as.length = xs.length ∧ ∀ (i : Nat) (a : α) (x : β), as[i]? = some a → xs[i]? = some x → R a x
theorem Pw.mono {α β : Type} {R R' : α → β → Prop} {as : List α} {xs : List β} (h : Pw R as xs) (k : ∀ a x, R a x → R' a x) : Pw R' as xs := ⟨h.1, fun i a x e1 e2 => k a x (h.2 i a x e1 e2)⟩
theorem Pw.nil {α β : Type} (R : α → β → Prop) : Pw R [] [] := ⟨rfl, fun i a x e _ => by simp at e⟩
theorem Pw.snoc {α β : Type} {R : α → β → Prop} {as : List α} {xs : List β} {a : α} {x : β} (h : Pw R as xs) (hr : R a x) : Pw R (as ++ [a]) (xs ++ [x]) := by
  refine ⟨by simp [h.1], fun i b y e1 e2 => ?_⟩
  by_cases hi : i < as.length
  · rw [List.getElem?_append_left hi] at e1
    rw [List.getElem?_append_left (h.1 ▸ hi)] at e2
    exact h.2 i b y e1 e2
  · have hl : i < (as ++ [a]).length := (List.getElem?_eq_some_iff.mp e1).1
    have : i = as.length := by simp at hl; omega
    subst this
    rw [List.getElem?_append_right (Nat.le_refl _)] at e1
    rw [List.getElem?_append_right (by rw [h.1]; exact Nat.le_refl _)] at e2
    simp [h.1] at e1 e2
    rw [← e1, ← e2]; exact hr
theorem Pw.at {α β : Type} {R : α → β → Prop} {as : List α} {xs : List β} (h : Pw R as xs) {i : Nat} {a : α} (e : as[i]? = some a) : ∃ x, xs[i]? = some x ∧ R a x := by
  have hi := (List.getElem?_eq_some_iff.mp e).1
  rw [h.1] at hi
  exact ⟨xs[i], List.getElem?_eq_getElem hi, h.2 i a _ e (List.getElem?_eq_getElem hi)⟩
theorem Pw.at' {α β : Type} {R : α → β → Prop} {as : List α} {xs : List β} (h : Pw R as xs) {i : Nat} {x : β} (e : xs[i]? = some x) : ∃ a, as[i]? = some a ∧ R a x := by
  have hi := (List.getElem?_eq_some_iff.mp e).1
  rw [← h.1] at hi
  exact ⟨as[i], List.getElem?_eq_getElem hi, h.2 i _ x (List.getElem?_eq_getElem hi) e⟩

/-- a list of lists of agents; a list of records -/
def LR (g : Heap) (a : Addr) (xss : List (List Ag)) : Prop := ∃ as : List Addr, LL g a (as.map Value.ref) ∧ Pw (LS g) as xss
theorem LR.mono {g g' : Heap} {a : Addr} {xss : List (List Ag)} (h : LR g a xss) (k : Kp g g') : LR g' a xss := let ⟨as, l, p⟩ := h; ⟨as, l.mono k, p.mono fun _ _ h => h.mono k⟩

theorem hideS_perm {lent lent' : List (Addr × Obj)} (s : Shared) (h : lent.Perm lent') : hideS lent s = hideS lent' s := by
  unfold hideS
  have : (fun a => !(lent.map (·.1)).contains a) = (fun a => !(lent'.map (·.1)).contains a) := by
    funext a
    have := (h.map (·.1)).mem_iff (a := a)
    congr 1
    rw [Bool.eq_iff_iff, List.contains_iff_mem, List.contains_iff_mem]
    exact this
  rw [this]
theorem Ret.perm {g g' : Heap} {s s' : Shared} {lent lent' own : List (Addr × Obj)} (R : Ret g s lent own g' s') (h : lent.Perm lent') : Ret g s lent' own g' s' := by
  obtain ⟨a, b, c⟩ := R
  rw [hideS_perm s h] at a b
  exact ⟨a, b, c⟩

section
variable {g₀ g : Heap} {s₀ s : Shared} {env : Env} {ro : List Str} {m : Str → Option Value} {own qs : List (Addr × Obj)}
/-- new objects that the frame takes back for its own -/
theorem FS.thaw (F : FS g₀ s₀ env ro m own g s) (hq : ∀ p ∈ qs, g.get? p.1 = some p.2 ∧ s₀.heap.get? p.1 = none ∧ g₀.get? p.1 = none) (nd : (qs.map (·.1)).Nodup) :
    ∃ g', FS g₀ s₀ env ro m (qs ++ own) g' s ∧ Kp g' g ∧ ∀ b, b ∉ qs.map (·.1) → g'.get? b = g.get? b := by
  obtain ⟨g', eg, k⟩ : ∃ g' : Heap, (∀ b, g'.get? b = if (qs.map (·.1)).contains b then none else g.get? b) ∧ Kp g' g :=
    ⟨only (fun a => !(qs.map (·.1)).contains a) g, fun b => by rw [only_get]; cases (qs.map (·.1)).contains b <;> rfl, only_kp _ _⟩
  have none_of : ∀ b, g.get? b = none → g'.get? b = none := fun b e => by
    rw [eg, e]; split <;> rfl
  refine ⟨g', ⟨⟨F.grow.same, F.grow.kp, fun b o e => ?_, k.trans F.kp, fun b e1 e2 => none_of b (F.grow.apart b e1 e2)⟩, F.ns, ⟨F.locNew.1, none_of _ F.locNew.2⟩, F.cell, fun n c e => ⟨none_of _ (F.cellOut n c e).1, (F.cellOut n c e).2⟩, F.cellNew, F.cellInj, fun p hp => ?_, ?_⟩, k, fun b hb => ?_⟩
  · rw [eg, if_neg]
    · exact F.grow.gg _ _ e
    · intro q
      obtain ⟨p, hp, rfl⟩ := List.mem_map.mp (List.contains_iff_mem.mp q)
      rw [(hq p hp).2.2] at e; cases e
  · rcases List.mem_append.mp hp with hp | hp
    · obtain ⟨a, b, c⟩ := hq p hp
      refine ⟨F.kp _ _ a, b, ?_, fun q => ?_, fun n c e q => ?_⟩
      · rw [eg, if_pos (List.contains_iff_mem.mpr (List.mem_map_of_mem hp))]
      · rw [q, F.locNew.2] at a; cases a
      · rw [q, (F.cellOut n c e).1] at a; cases a
    · obtain ⟨a, b, c, d⟩ := F.mine p hp
      exact ⟨a, b, none_of _ c, d⟩
  · rw [List.map_append, List.nodup_append]
    refine ⟨nd, F.ownNd, fun a ha b hb q => ?_⟩
    subst q
    obtain ⟨p, hp, rfl⟩ := List.mem_map.mp ha
    obtain ⟨p', hp', e⟩ := List.mem_map.mp hb
    have := (F.mine p' hp').2.2.1
    have e' : p'.1 = p.1 := e
    rw [e', (hq p hp).1] at this; cases this
  · rw [eg, if_neg fun q => hb (List.contains_iff_mem.mp q)]
end

section
variable {prog : Program} {w : World} {A : Around} {E : Value → Shared → Prop} {g₀ g : Heap} {s₀ s s' : Shared} {env : Env} {ro : List Str} {m : Str → Option Value} {own lent lent' : List (Addr × Obj)}

/-- a slice; it is new -/
theorem slice_N {value : Expr} {lower upper : Option Expr} {p pos : Pos} {Q : Value → Shared → Prop}
    (h : wpAny (model prog w) A (eval value env) (fun o s₁ => wpAny (model prog w) A (evalPart lower env) (fun vl s₂ => wpAny (model prog w) A (evalPart upper env) (fun vu s₃ =>
      ∃ g l vs lw hi, o = .ref l ∧ Kp g s₃.heap ∧ LL s₃.heap l vs ∧ vs.length ≤ sizeLine ∧ IsPart vl lw ∧ IsPart vu hi ∧
        ∀ g' c s', Grow g s₃ g' s' → s₃.heap.get? c = none → g'.get? c = some (lo (slicePick vs.toArray lw hi none).toList 0) → Q (.ref c) s') E s₂) E s₁) E s)
    (ht : ∀ o r, letTemporaryGo value o r = pure () := by intro _ _; rfl) :
    wpAny (model prog w) A (eval (.Subscript value (.Slice lower upper none p) pos) env) Q E s := by
  refine wpAny_Subscript_list_slice (wpAny_mono h (fun o s₁ h₁ => wpAny_mono h₁ (fun vl s₂ h₂ => wpAny_mono h₂ (fun vu s₃ h₃ => ?_) fun _ _ e => e) fun _ _ e => e) fun _ _ e => e) ht
  obtain ⟨g, l, vs, lw, hi, rfl, k, hl, hsz, pl, pu, hQ⟩ := h₃
  refine ⟨l, _, lw, hi, rfl, hl.isList, by simpa using hsz, pl, pu, ?_⟩
  obtain ⟨g', G, nw⟩ := grow_of (s' := { s₃ with heap := (s₃.heap.push { cls := .type "slice", data := .fields #[vl, vu, .none] }).push { cls := .type "list", data := .seq (slicePick vs.toArray lw hi none) } }) k ⟨_, _, rfl, fun b o e => Heap.get?_push_of_some _ (Heap.get?_push_of_some _ e)⟩
  have fr : s₃.heap.get? (s₃.heap.objs.size + 1) = none := by
    cases q : s₃.heap.get? (s₃.heap.objs.size + 1) with
    | none => rfl
    | some o => exact absurd (Heap.lt_size q) (Nat.not_lt.mpr (Nat.le_succ _))
  refine hQ g' _ _ G fr (nw _ _ fr ?_)
  have e1 := Heap.get?_push_size (s₃.heap.push { cls := .type "slice", data := .fields #[vl, vu, .none] }) (o := { cls := .type "list", data := .seq (slicePick vs.toArray lw hi none) }) rfl
  rw [Heap.size_push] at e1
  simpa using e1
end
end Mine
end

section
set_option maxRecDepth 100000
set_option autoImplicit false
set_option linter.unusedVariables false
set_option linter.unusedSimpArgs false
open PySem PySem.W PyProof.Rows
namespace Mine
open PyProof.Rows.TI (Frs SameUp)
local macro_rules | `(tactic| walk_at "body") => `(tactic| (unfold bodyAt; conv => (arg 3; arg 1; whnf)))
local macro_rules | `(tactic| walk_at "bind") => `(tactic| (refine BindsTo.of_eq ?_; unfold fdAt; (conv => lhs; arg 1; whnf); rfl))

def Told (g : Heap) (a : Addr) : Option (List Ag) → Prop
  | none => LL g a []
  | some r => ∃ b, LL g a [.ref b] ∧ LS g b r
theorem Told.mono {g g' : Heap} {a : Addr} {r : Option (List Ag)} (h : Told g a r) (k : Kp g g') : Told g' a r := by
  cases r with
  | none => exact LL.mono h k
  | some r => obtain ⟨b, h1, h2⟩ := h; exact ⟨b, h1.mono k, h2.mono k⟩

/-- copies of the first k lists: all new -/
def Cut (sb : Shared) (xss : List (List Ag)) (k : Nat) (ys : List Value) (g : Heap) : Prop :=
  ∃ qs : List Sq, ys = qs.map sr ∧ qs.map sx = xss.take k ∧ (∀ q ∈ qs, g.get? q.1 = some (so q).2 ∧ sb.heap.get? q.1 = none) ∧ (qs.map fun q : Sq => q.1).Nodup
theorem Cut.mono {sb : Shared} {xss : List (List Ag)} {k : Nat} {ys : List Value} {g g' : Heap} (h : Cut sb xss k ys g) (kg : Kp g g') : Cut sb xss k ys g' :=
  let ⟨qs, a, b, c, d⟩ := h; ⟨qs, a, b, fun q hq => ⟨kg _ _ (c q hq).1, (c q hq).2⟩, d⟩
theorem Cut.nil {sb : Shared} {xss : List (List Ag)} {g : Heap} : Cut sb xss 0 [] g := ⟨[], rfl, rfl, fun _ hq => (nomatch hq), List.nodup_nil⟩

section
variable {prog : Program} {w : World} {A : Around} {E : Value → Shared → Prop} {g₀ g : Heap} {s₀ s s' : Shared} {env : Env} {ro : List Str} {m : Str → Option Value} {own lent lent' : List (Addr × Obj)}

set_option maxHeartbeats 1000000 in
theorem told_ok {Rw : Addr} {xss : List (List Ag)} {fr : List (Addr × Obj)} {l : List Env} {N : Nat} {Q : Value → Shared → Prop} (L : Ld w g) (k : Kp g s.heap) (rm : Rm 6 A) (hfr : A.frames = some l) (Fs : Frs l fr)
    (hl : ∀ p ∈ fr, s.heap.get? p.1 = some p.2 ∧ g.get? p.1 = none) (hnd : (fr.map (·.1)).Nodup) (hR : LR g Rw xss) (hz : tot xss ≤ 1000) (hz2 : xss.length ≤ 1000) (hN : tot xss < N)
    (h : ∀ g' s' fr' a, Ret g s fr fr' g' s' → SameUp fr fr' → Told g' a (c3 N xss) → Q (.ref a) s') : wpAny (model prog w) A (call (.ref 96) [.ref Rw]) Q E s := by
  refine wpAny_call ?_
  refine call_at 96 (binds := [(Str.ofString "rows", .ref Rw)]) fr L k hl hnd rm.room rfl rfl rfl (by walk_at "bind") rfl rfl rfl rfl rfl fun s₁ F => ?_
  walk_at "body"
  have rm1 : Rm 5 (A.deeper (envAt w 96 s.heap.objs.size)) := rm.deeper
  obtain ⟨as, hA, hP⟩ := hR
  refine wpAny_execs_cons (wpAny_Try_except ?_)
  refine wpAny_execs_cons (wpAny_Return_some (List_ (spliced_more ?_)))
  refine callG (L.mono F.kp) rfl rfl rfl rfl rfl (spliced_more ?_)
  refine comp_evalF F (n := (as.map Value.ref).length) (P := fun k v => (as.map Value.ref)[k]? = some v) (J := Cut s₁ xss) rfl rfl (by decide) rfl (fun C => .inl rfl)
    (fun ys g g' kg h => h.mono kg) (nmF F rfl (.inl rfl) rfl ?_)
  refine ⟨g, F, Src.list rm1.hh F.kp hA, by rw [sizeLine_eq, List.length_map, hP.1]; omega, Cut.nil, fun C hC => ?_, fun D ys g2 s₅ F2 k2 hD hJ => spliced_none ?_⟩
  · intro i v ys own g1 s5 E' hi hPv kg1 hJ Fc
    rw [List.length_map] at hi
    rw [List.getElem?_map, List.getElem?_eq_getElem hi] at hPv
    have hPv : Value.ref as[i] = v := by simpa using hPv
    subst hPv
    obtain ⟨x, hx, ps, hps, hll⟩ := hP.at (List.getElem?_eq_getElem hi)
    have hxz : x.length ≤ 1000 := Nat.le_trans (len_le_tot (List.mem_of_getElem? hx)) hz
    refine wpAny_tests_nil ?_
    rw [if_pos rfl]
    refine slice_N (nmF Fc rfl (.inl rfl) rfl (wpAny_evalPart_none (wpAny_evalPart_none ?_))) (fun _ _ => rfl)
    refine ⟨g1, as[i], ps.map sv, none, none, rfl, Fc.kp, (hll.mono kg1).mono Fc.kp, by rw [sizeLine_eq, List.length_map]; have := congrArg List.length hps; rw [List.length_map] at this; omega, .none, .none, fun g3 c s6 G hc0 hc => ?_⟩
    rw [slicePick_all] at hc
    obtain ⟨qs, rfl, e2, e3, e4⟩ := hJ
    refine ⟨g3, Fc.on G, G.gg, qs ++ [(c, ps, 0)], by simp, ?_, fun q hq => ?_, ?_⟩
    · rw [List.take_add_one, hx, List.map_append, e2]; simp [hps]
    · rcases List.mem_append.mp hq with hq | hq
      · exact ⟨G.gg _ _ (e3 q hq).1, (e3 q hq).2⟩
      · obtain rfl := List.mem_singleton.mp hq
        refine ⟨hc, ?_⟩
        cases qq : s₁.heap.get? c with
        | none => rfl
        | some o => have := Fc.grow.kp _ _ qq; rw [hc0] at this; cases this
    · rw [List.map_append, List.nodup_append]
      refine ⟨e4, by simp, fun a ha b hb q => ?_⟩
      subst q
      obtain ⟨q, hq, rfl⟩ := List.mem_map.mp ha
      have h1 := Fc.kp _ _ (e3 q hq).1
      have h2 : q.1 = c := by simpa using hb
      rw [h2, hc0] at h1; cases h1
  obtain ⟨qs, rfl, e2, e3, e4⟩ := hJ
  rw [List.length_map, hP.1, List.take_length] at e2
  obtain ⟨g3, F3, k3, k3'⟩ := F2.thaw (qs := qs.map so) (fun p hp => by
    obtain ⟨q, hq, rfl⟩ := List.mem_map.mp hp
    obtain ⟨a, b⟩ := e3 q hq
    refine ⟨a, ?_, ?_⟩
    · cases qq : (hideS fr s).heap.get? q.1 with
      | none => rfl
      | some o => have := F.grow.kp _ _ qq; rw [b] at this; cases this
    · cases qq : g.get? q.1 with
      | none => rfl
      | some o => have := F.kp _ _ qq; rw [b] at this; cases this) (by rw [List.map_map]; exact e4)
  have hD3 : LL g3 D (qs.map sr) := by
    obtain ⟨nn, hD⟩ := hD
    refine ⟨nn, ?_⟩
    rw [k3' D ?_]; exact hD
    intro hm
    rw [List.map_map] at hm
    obtain ⟨q, hq, e⟩ := List.mem_map.mp hm
    have e : q.1 = D := e
    have h1 := (e3 q hq).1
    rw [e, hD] at h1
    have h2 : (qs.map sr).toArray = (q.2.1.map sv).toArray := by
      have := Option.some.inj h1
      injection this with _ _ h3
      injection h3
    have h2 : qs.map sr = q.2.1.map sv := by simpa using h2
    cases qs with
    | nil => cases hq
    | cons a b =>
      cases hh : q.2.1 with
      | nil => rw [hh] at h2; simp at h2
      | cons c d => rw [hh] at h2; simp at h2
  have kg3 : Kp g g3 := F3.grow.gg
  refine ⟨L.X.keeps (kg3.trans F3.kp), wpAny_call ?_⟩
  obtain ⟨ml, ⟨oL, es, ep, hoL, hdL, _⟩, _⟩ := id F3.ns
  have Fs1 : Frs ((envAt w 96 s.heap.objs.size) :: l) (((envAt w 96 s.heap.objs.size).locals, oL) :: fr) := ⟨fun q => ScopeKind.noConfusion (show ScopeKind.function = ScopeKind.module from q), rfl, ⟨es, ep, hdL⟩, Fs⟩
  have hnd3 := F3.ownNd
  have pm : (qs.map so ++ ((envAt w 96 s.heap.objs.size).locals, oL) :: fr).Perm (((envAt w 96 s.heap.objs.size).locals, oL) :: (fr ++ qs.map so)) := List.perm_middle.trans (.cons _ List.perm_append_comm)
  have hmine : ∀ p ∈ qs.map so ++ ((envAt w 96 s.heap.objs.size).locals, oL) :: fr, s₅.heap.get? p.1 = some p.2 ∧ g3.get? p.1 = none := fun p hp => by
    rcases List.mem_append.mp hp with hp | hp
    · exact ⟨(F3.mine p (List.mem_append_left _ hp)).1, (F3.mine p (List.mem_append_left _ hp)).2.2.1⟩
    · rcases List.mem_cons.mp hp with rfl | hp
      · exact ⟨hoL, F3.locNew.2⟩
      · exact ⟨(F3.mine p (List.mem_append_right _ hp)).1, (F3.mine p (List.mem_append_right _ hp)).2.2.1⟩
  have F4 : FS g (hideS fr s) (envAt w 96 s.heap.objs.size) [] _ ((fr ++ qs.map so) ++ []) g3 s₅ := F3.perm (by rw [List.append_nil]; exact List.perm_append_comm)
  refine c3_ok (qs := qs) (N := N) (L.mono kg3) F3.kp (rm1.less (by omega)) (Around.frames_deeper hfr) Fs1 hmine ?_ hD3 (by rw [e2]; exact hz) (by have := congrArg List.length e2; rw [List.length_map] at this; omega) (by rw [e2]; exact hN) (fun r g4 s6 c hc R hls => ?_) (fun e a0 s6 hc same hfl hsl => ?_)
  · refine ((List.perm_middle (a := ((envAt w 96 s.heap.objs.size).locals, oL)) (l₁ := qs.map so) (l₂ := fr)).map (·.1)).nodup_iff.mpr ?_
    rw [List.map_cons, List.nodup_cons]
    refine ⟨fun q => ?_, hnd3⟩
    obtain ⟨p, hp, e⟩ := List.mem_map.mp q
    exact (F3.mine p hp).2.2.2.1 e
  · have F5 := FS.backSelf F4 hoL (R.perm pm) ⟨oL.slots, rfl⟩
    refine spliced_none (newList_G F5.kp fun g5 a s7 G ha => ?_)
    have F6 := F5.on G
    rw [List.append_nil] at F6
    refine h g5 s7 fr a F6.ret (SameUp.refl _) ?_
    rw [← e2, hc]
    exact ⟨c, ha, hls.mono G.gg⟩
  · rw [hideS_perm s₅ pm] at hfl
    have kh : Kp g3 (hideS (((envAt w 96 s.heap.objs.size).locals, oL) :: (fr ++ qs.map so)) s₅).heap := fun b o eb => hideS_not (fun hm => by
      obtain ⟨p, hp, rfl⟩ := List.mem_map.mp hm
      rw [(hmine p (pm.mem_iff.mpr hp)).2] at eb; cases eb) (F3.kp _ _ eb)
    refine wpAny_looks_onW (Around.frames_deeper hfr) rfl hfl fun h4 H4 u4 => wpAny_landsW H4 fun h5 H5 u5 => ?_
    obtain ⟨ob, hob, hobc⟩ := H5.there
    refine wpAny_handleBy_builtin (X := "RuntimeError") (T := "RuntimeError") (b := true) PySem.F.isExc_RuntimeError PySem.F.notTuple_RuntimeError (by rw [isSubtype_type]; kernel_rfl) (blF (L.mono ((kg3.trans kh).trans H5.1)) rfl rfl rfl rfl rfl PyProof.Rows.Boot.RuntimeError ⟨rfl, ⟨ob, hob, hobc⟩, ?_⟩)
    rw [if_pos rfl]
    refine lands_againW H5 fun h6 H6 u6 => ?_
    obtain ⟨fr', SU, F5⟩ := FS.after (s' := { s6 with heap := h6 }) F4 hoL (by obtain ⟨hh, tt, rfl⟩ := same; exact ⟨_, _, rfl⟩) H6.1 fun p hp => by
      obtain ⟨sl, hs⟩ := hsl p hp
      have hd : ∀ vs, ({ p.2 with slots := sl } : Obj).data ≠ .fields vs := fun vs q => by
        obtain ⟨es, ep, hd⟩ := Fs1.dict p hp
        have q : p.2.data = .fields vs := q
        rw [hd] at q; cases q
      obtain ⟨sl2, hs2⟩ := ((u4.trans u5).trans u6) p.1 _ hs hd
      exact ⟨sl2, hs2⟩
    refine wpAny_execs_cons (wpAny_Return_some (List_ (spliced_none (newList_G F5.kp fun g5 a s7 G ha => ?_))))
    have F6 := F5.on G
    rw [List.append_nil] at F6
    refine h g5 s7 fr' a F6.ret SU ?_
    rw [← e2, hc]
    exact ha
end
end Mine
end

section
set_option maxRecDepth 100000
set_option autoImplicit false
set_option linter.unusedVariables false
set_option linter.unusedSimpArgs false
open PySem PySem.W PyProof.Rows
namespace Mine

abbrev two (elt t1 i1 t2 i2 : Expr) (scope : Scope) (pos : Pos) : Expr := .ListComp elt [⟨t1, i1, [], 0⟩, ⟨t2, i2, [], 0⟩] scope pos
theorem compTurn_two0 (elt t1 i1 t2 i2 : Expr) (scope : Scope) (pos : Pos) (it acc : Value) (env : Env) :
    compTurn (two elt t1 i1 t2 i2 scope pos) 0 it acc env = (standAt i1.pos >>= fun _ => pyNext it >>= fun r => match r with
      | none => pure (.done .next)
      | some v => letOwnedTupleGo t1 it v >>= fun _ => assign t1 env v >>= fun _ =>
        (eval i2 env >>= fun x => standAt i2.pos >>= fun _ => foldedSetIterable i2 env x >>= fun x => holding [x] (pyIter x) >>= fun j => runOwn (.compStart (two elt t1 i1 t2 i2 scope pos) 1 j acc env) env >>= fun _ => again (.compLoop (two elt t1 i1 t2 i2 scope pos) 0 it acc env))) := by rfl
theorem compTurn_two1 (elt t1 i1 t2 i2 : Expr) (scope : Scope) (pos : Pos) (it acc : Value) (env : Env) :
    compTurn (two elt t1 i1 t2 i2 scope pos) 1 it acc env = (standAt i2.pos >>= fun _ => pyNext it >>= fun r => match r with
      | none => pure (.done .next)
      | some v => letOwnedTupleGo t2 it v >>= fun _ => assign t2 env v >>= fun _ =>
        (eval elt env >>= fun x => call (.builtin "list.append") [acc, x] >>= fun _ => pure ()) >>= fun _ =>
          again (.compLoop (two elt t1 i1 t2 i2 scope pos) 1 it acc env)) := by rfl

section
variable {prog : Program} {w : World} {A : Around} {E : Value → Shared → Prop} {R : Result → Shared → Prop} {s : Shared} {elt t1 i1 t2 i2 : Expr} {scope : Scope} {pos : Pos} {it acc : Value} {env : Env}
theorem codeAny_two1 (I : Nat → Shared → Prop)
    (turn : ∀ n s, I n s → wpAny (model prog w) A (pyNext it) (fun r s₁ => match r with
      | none => R (.ok .next) s₁
      | some v => wpAny (model prog w) A (assign t2 env v) (fun _ s₂ =>
          wpAny (model prog w) A (eval elt env) (fun x s₄ =>
              wpAny (model prog w) A (call (.builtin "list.append") [acc, x]) (fun _ s₅ => ∃ m, m < n ∧ I m s₅) (notedBy (model prog w) A env fun e s' => R (.error e) s') s₄) (notedBy (model prog w) A env fun e s' => R (.error e) s') s₂)
            (notedBy (model prog w) A env fun e s' => R (.error e) s') s₁) (notedBy (model prog w) A env fun e s' => R (.error e) s') s)
    (n : Nat) (h : I n s) (ht : ∀ v, letOwnedTupleGo t2 it v = pure () := by intro _; rfl) :
    codeAny (model prog w) A (.compLoop (two elt t1 i1 t2 i2 scope pos) 1 it acc env) R s := by
  refine codeAny_loop rfl I (fun n s hI => ?_) n h
  show wpAny _ A ((compTurn (two elt t1 i1 t2 i2 scope pos) 1 it acc env).onRaise (fun x => do noteFrame x env; theTreesLotGoes x)) _ _ s
  refine wpAny_noted ?_
  rw [compTurn_two1]
  refine wpAny_bind (wpAny_standAt (wpAny_bind (wpAny_mono (turn n s hI) (fun r s₁ h₁ => ?_) fun _ _ h' => h')))
  cases r with
  | none => exact wpAny_pure h₁
  | some v =>
    refine wpAny_bind (wpAny_of_eq (ht v) ?_)
    exact wpAny_bind (wpAny_mono h₁ (fun _ s₂ h₂ => wpAny_bind (wpAny_bind (wpAny_mono h₂ (fun x s₄ h₄ => wpAny_bind (wpAny_mono h₄ (fun _ s₅ h₅ => wpAny_pure (wpAny_pure ⟨rfl, h₅⟩)) fun _ _ h' => h')) fun _ _ h' => h'))) fun _ _ h' => h')
theorem codeAny_two0 (I : Nat → Shared → Prop)
    (turn : ∀ n s, I n s → wpAny (model prog w) A (pyNext it) (fun r s₁ => match r with
      | none => R (.ok .next) s₁
      | some v => wpAny (model prog w) A (assign t1 env v) (fun _ s₂ =>
          wpAny (model prog w) A (eval i2 env) (fun x s₄ => wpAny (model prog w) A (pyIter x) (fun j s₅ =>
              codeAny (model prog w) A (.compStart (two elt t1 i1 t2 i2 scope pos) 1 j acc env) (fun r s' => match r with | .ok f => ∃ m, m < n ∧ I m s' | .error e => cameBackBy (model prog w) A env (notedBy (model prog w) A env fun e s' => R (.error e) s') e s') s₅)
              (notedBy (model prog w) A env fun e s' => R (.error e) s') s₄) (notedBy (model prog w) A env fun e s' => R (.error e) s') s₂)
            (notedBy (model prog w) A env fun e s' => R (.error e) s') s₁) (notedBy (model prog w) A env fun e s' => R (.error e) s') s)
    (n : Nat) (h : I n s) (ht : ∀ v, letOwnedTupleGo t1 it v = pure () := by intro _; rfl) (hs : ∀ x, foldedSetIterable i2 env x = pure x := by intro _; rfl) :
    codeAny (model prog w) A (.compLoop (two elt t1 i1 t2 i2 scope pos) 0 it acc env) R s := by
  refine codeAny_loop rfl I (fun n s hI => ?_) n h
  show wpAny _ A ((compTurn (two elt t1 i1 t2 i2 scope pos) 0 it acc env).onRaise (fun x => do noteFrame x env; theTreesLotGoes x)) _ _ s
  refine wpAny_noted ?_
  rw [compTurn_two0]
  refine wpAny_bind (wpAny_standAt (wpAny_bind (wpAny_mono (turn n s hI) (fun r s₁ h₁ => ?_) fun _ _ h' => h')))
  cases r with
  | none => exact wpAny_pure h₁
  | some v =>
    refine wpAny_bind (wpAny_of_eq (ht v) ?_)
    refine wpAny_bind (wpAny_mono h₁ (fun _ s₂ h₂ => wpAny_bind (wpAny_mono h₂ (fun x s₄ h₄ => ?_) fun _ _ h' => h')) fun _ _ h' => h')
    refine wpAny_bind (wpAny_standAt (wpAny_bind (wpAny_of_eq (hs x) (wpAny_bind (wpAny_holding (wpAny_mono h₄ (fun j s₅ h₅ => ?_) fun _ _ h' => h'))))))
    exact wpAny_bind (wpAny_runOwn (codeAny_mono h₅ fun r s' hr => by
      cases r with
      | ok f => exact wpAny_pure ⟨rfl, hr⟩
      | error e => exact hr))
theorem codeAny_start1 (h0 : codeAny (model prog w) A (.compLoop (two elt t1 i1 t2 i2 scope pos) 1 it acc env) R s)
    (h : wpAny (model prog w) A (pyIter it) (fun it' s' => codeAny (model prog w) A (.compLoop (two elt t1 i1 t2 i2 scope pos) 1 it' acc env) R s')
      (notedBy (model prog w) A env fun x s' => R (.error x) s') s) :
    codeAny (model prog w) A (.compStart (two elt t1 i1 t2 i2 scope pos) 1 it acc env) R s := by
  refine codeAny_of_tree ?_
  show wpAny _ _ ((compStart (two elt t1 i1 t2 i2 scope pos) 1 it acc env).onRaise (fun x => do noteFrame x env; standAt theWindowsPlace)) _ _ s
  refine wpAny_notedAt ?_
  unfold compStart
  show wpAny _ _ (ask >>= _) _ _ s
  refine wpAny_bind (wpAny_askSetting (wpAny_ite ?_))
  split
  · first
      | exact wpAny_bind (wpAny_pure (wpAny_pure (And.intro rfl h0)))
      | exact wpAny_pure (And.intro rfl h0)
  · first
      | exact wpAny_bind (wpAny_rule (wpAny_bind (wpAny_standAt (wpAny_bind (wpAny_mono h (fun it' s' h' => wpAny_pure (And.intro rfl h')) fun _ _ x => x)))))
      | (refine wpAny_bind (wpAny_rule ?_); show wpAny _ _ (standAt i2.pos >>= _) _ _ s; exact wpAny_bind (wpAny_standAt (wpAny_bind (wpAny_mono h (fun it' s' h' => wpAny_pure (And.intro rfl h')) fun _ _ x => x))))
end
end Mine
end

section
set_option maxRecDepth 100000
set_option autoImplicit false
set_option linter.unusedVariables false
set_option linter.unusedSimpArgs false
open PySem PySem.W PyProof.Rows
namespace Mine

def Off (x y : Str) (m' m : Str → Option Value) : Prop := ∀ z, z ≠ x → z ≠ y → m' z = m z
theorem Off.refl (x y : Str) (m : Str → Option Value) : Off x y m m := fun _ _ _ => rfl
theorem Off.putx {x y : Str} {m' m : Str → Option Value} (h : Off x y m' m) (v : Value) : Off x y (put m' x v) m := fun z h1 h2 => by unfold put; rw [if_neg h1]; exact h z h1 h2
theorem Off.puty {x y : Str} {m' m : Str → Option Value} (h : Off x y m' m) (v : Value) : Off x y (put m' y v) m := fun z h1 h2 => by unfold put; rw [if_neg h2]; exact h z h1 h2
theorem put_same (m : Str → Option Value) (x : Str) (v : Value) : put m x v x = some v := by simp [put]
theorem put_ne (m : Str → Option Value) {x y : Str} (v : Value) (h : y ≠ x) : put m x v y = m y := by simp [put, h]

structure CTurn2 (prog : Program) (w : World) (A : Around) (g : Heap) (sb : Shared) (cenv : Env) (ro : List Str) (m₀ : Str → Option Value) (x y : Str) (iter2 elt : Expr) (n : Nat) (P : Nat → Value → Prop) (n2 : Nat → Nat) (P2 : Nat → Nat → Value → Prop) (J : Nat → Nat → List Value → Heap → Prop) : Prop where
  src : ∀ (k : Nat) (v : Value) (m' : Str → Option Value) (own : List (Addr × Obj)) (g' : Heap) (s' : Shared) (E' : Value → Shared → Prop), k < n → P k v → Kp g g' → Off x y m' m₀ → m' x = some v → FS g sb cenv ro m' own g' s' →
    wpAny (model prog w) A (eval iter2 cenv) (fun xv s₁ => ∃ g₁, FS g sb cenv ro m' own g₁ s₁ ∧ Kp g' g₁ ∧ Src prog w A g₁ s₁ xv (n2 k) (P2 k)) E' s'
  elt : ∀ (k j : Nat) (v u : Value) (ys : List Value) (m' : Str → Option Value) (own : List (Addr × Obj)) (g' : Heap) (s' : Shared) (E' : Value → Shared → Prop), k < n → j < n2 k → P k v → P2 k j u → Kp g g' → Off x y m' m₀ → m' x = some v → m' y = some u → J k j ys g' → FS g sb cenv ro m' own g' s' →
    wpAny (model prog w) A (eval elt cenv) (fun e s₁ => ∃ g₁, FS g sb cenv ro m' own g₁ s₁ ∧ Kp g' g₁ ∧ J k (j + 1) (ys ++ [e]) g₁) E' s'
  next : ∀ (k : Nat) (v : Value) (ys : List Value) (g' : Heap), k < n → P k v → J k (n2 k) ys g' → J (k + 1) 0 ys g'
  mono : ∀ (k j : Nat) (ys : List Value) (g g' : Heap), Kp g g' → J k j ys g → J k j ys g'
  len : ∀ (k j : Nat) (ys : List Value) (g' : Heap), k < n → j < n2 k → J k j ys g' → ys.length ≤ sizeLine

section
variable {prog : Program} {w : World} {A : Around} {E : Value → Shared → Prop} {g g₀ : Heap} {s sb s₀ : Shared} {cenv env : Env} {ro : List Str} {m m₀ : Str → Option Value} {own : List (Addr × Obj)}
variable {elt iter iter2 : Expr} {x y : Str} {px py : Pos} {scope : Scope} {pos : Pos} {n : Nat} {P : Nat → Value → Prop} {n2 : Nat → Nat} {P2 : Nat → Nat → Value → Prop} {J : Nat → Nat → List Value → Heap → Prop}

theorem two_inner {R : Result → Shared → Prop} (T : CTurn2 prog w A g sb cenv ro m₀ x y iter2 elt n P n2 P2 J) {k : Nat} {v : Value} {D I I2 : Addr} {o' o2 : Obj} {g1 : Heap} {m1 : Str → Option Value} {ys : List Value} {c : Nat} {Ob2 : Nat → Obj → Prop} (W2 : Itr prog w A g1 I2 (n2 k) (P2 k) Ob2) (hk : cenv.scope.kind = .function)
    (hy : cenv.kindOf y = some .local ∨ (cenv.kindOf y = some .cell ∧ y ∉ ro)) (hxy : x ≠ y) (hkn : k < n) (hP : P k v) (kg : Kp g g1) (ho2 : Ob2 0 o2) (hJ : J k 0 ys g1) (hm : Off x y m1 m₀) (hx : m1 x = some v) (F : FS g sb cenv ro m1 [(I2, o2), (D, lo ys c), (I, o')] g1 s)
    (hR : ∀ ys c g' s' m', FS g sb cenv ro m' [(D, lo ys c), (I, o')] g' s' → Kp g1 g' → Off x y m' m₀ → J k (n2 k) ys g' → R (.ok .next) s') :
    codeAny (model prog w) A (.compLoop (two elt (.Name x px) iter (.Name y py) iter2 scope pos) 1 (.ref I2) (.ref D) cenv) R s := by
  refine codeAny_two1 (fun j s => ∃ (i : Nat) (ys : List Value) (c : Nat) (o : Obj) (g' : Heap) (m' : Str → Option Value), j = n2 k - i ∧ i ≤ n2 k ∧ Ob2 i o ∧ Kp g1 g' ∧ J k i ys g' ∧ Off x y m' m₀ ∧ m' x = some v ∧ FS g sb cenv ro m' [(I2, o), (D, lo ys c), (I, o')] g' s) (fun j s h => ?_) (n2 k)
    ⟨0, ys, c, o2, g1, m1, by omega, Nat.zero_le _, ho2, Kp.refl _, hJ, hm, hx, F⟩ (fun _ => rfl)
  obtain ⟨i, ys, c, o, g', m', rfl, hi, ho, kg', hJ, hm, hx, F⟩ := h
  have hI := F.ownGet (.head _)
  by_cases hlt : i < n2 k
  · refine W2.item i o s _ _ hlt ho (kg'.trans F.kp) hI fun u o3 h' tk hP2 ho3 he hs => ?_
    have F := F.upd (tk := tk) hs he
    refine wpAny_assign_Name (stF F hk hy fun s₂ F => ?_)
    refine wpAny_mono (T.elt k i v u ys _ _ g' s₂ _ hkn hlt hP hP2 (kg.trans kg') (hm.puty u) (by rw [put_ne _ _ hxy]; exact hx) (put_same _ _ _) hJ F) (fun e s₃ h₃ => ?_) fun _ _ e => e
    obtain ⟨g₂, F, k₂, hJ2⟩ := h₃
    refine append_F F.swap (fun c' s₅ F => ?_) (T.len k i ys g' hkn hlt hJ)
    exact ⟨n2 k - (i + 1), by omega, i + 1, ys ++ [e], c', o3, g₂, _, rfl, hlt, ho3, kg'.trans k₂, hJ2, hm.puty u, by rw [put_ne _ _ hxy]; exact hx, F.swap⟩
  · have hin : i = n2 k := by omega
    subst hin
    refine W2.done o s _ _ ho (kg'.trans F.kp) hI fun h' tk hs => ?_
    have F := FS.moved (lent := [(I2, o)]) (lent' := []) F (s' := { s with heap := h', toks := tk }) ⟨_, _, rfl⟩ (fun b o hb e => hs b o (by simpa using hb) e) (fun p hp => nomatch hp) List.nodup_nil
    exact hR ys c g' _ m' F kg' hm hJ

theorem two_loop {R : Result → Shared → Prop} (T : CTurn2 prog w A g sb cenv ro m₀ x y iter2 elt n P n2 P2 J) {D I : Addr} {o : Obj} {Ob : Nat → Obj → Prop} (W : Itr prog w A g I n P Ob) (hk : cenv.scope.kind = .function)
    (hx : cenv.kindOf x = some .local ∨ (cenv.kindOf x = some .cell ∧ x ∉ ro)) (hy : cenv.kindOf y = some .local ∨ (cenv.kindOf y = some .cell ∧ y ∉ ro)) (hxy : x ≠ y) (ho : Ob 0 o) (hJ : J 0 0 [] g) (F : FS g sb cenv ro m₀ [(D, lo [] 0), (I, o)] g s)
    (hR : ∀ ys c g' s' m', FS g sb cenv ro m' [(D, lo ys c)] g' s' → Kp g g' → J n 0 ys g' → R (.ok .next) s') (hs2 : ∀ x, foldedSetIterable iter2 cenv x = pure x) :
    codeAny (model prog w) A (.compLoop (two elt (.Name x px) iter (.Name y py) iter2 scope pos) 0 (.ref I) (.ref D) cenv) R s := by
  refine codeAny_two0 (fun j s => ∃ (k : Nat) (ys : List Value) (c : Nat) (o : Obj) (g' : Heap) (m' : Str → Option Value), j = n - k ∧ k ≤ n ∧ Ob k o ∧ Kp g g' ∧ J k 0 ys g' ∧ Off x y m' m₀ ∧ FS g sb cenv ro m' [(D, lo ys c), (I, o)] g' s) (fun j s h => ?_) n
    ⟨0, [], 0, o, g, m₀, by omega, Nat.zero_le _, ho, Kp.refl _, hJ, Off.refl _ _ _, F⟩ (fun _ => rfl) hs2
  obtain ⟨k, ys, c, o, g', m', rfl, hkn, ho, kg, hJ, hm, F⟩ := h
  have hI := F.ownGet (.tail _ (.head _))
  by_cases hlt : k < n
  · refine W.item k o s _ _ hlt ho (kg.trans F.kp) hI fun v o' h' tk hP ho' he hs => ?_
    have F := (F.swap.upd (tk := tk) hs he).swap
    refine wpAny_assign_Name (stF F hk hx fun s₂ F => ?_)
    refine wpAny_mono (T.src k v _ _ g' s₂ _ hlt hP kg (hm.putx v) (put_same _ _ _) F) (fun xv s₃ h₃ => ?_) fun _ _ e => e
    obtain ⟨g₁, F, k₁, Ob2, o2, hf2, W2, ho2, hiter⟩ := h₃
    refine hiter _ _ ?_
    have F := F.push o2 hf2
    have key := two_inner (R := fun r s' => match r with | .ok f => (∃ m, m < n - k ∧ ∃ (k : Nat) (ys : List Value) (c : Nat) (o : Obj) (g' : Heap) (m' : Str → Option Value), m = n - k ∧ k ≤ n ∧ Ob k o ∧ Kp g g' ∧ J k 0 ys g' ∧ Off x y m' m₀ ∧ FS g sb cenv ro m' [(D, lo ys c), (I, o)] g' s') | .error e => cameBackBy (model prog w) A cenv (notedBy (model prog w) A cenv fun e s' => R (.error e) s') e s') (px := px) (py := py) (iter := iter) (scope := scope) (pos := pos)
      T (W2 _) hk hy hxy hlt hP (kg.trans k₁) ho2 (T.mono _ _ _ _ _ k₁ hJ) (hm.putx v) (put_same _ _ _) F fun ys c g' s' m' F' k' hm' hJ' => ⟨n - (k + 1), by omega, k + 1, ys, c, o', g', m', rfl, hlt, ho', (kg.trans k₁).trans k', T.next k v ys g' hlt hP hJ', hm', F'⟩
    exact codeAny_start1 key ((W2 _).self 0 o2 _ _ _ ho2 (F.ownGet (.head _)) key)
  · have hkn : k = n := by omega
    subst hkn
    refine W.done o s _ _ ho (kg.trans F.kp) hI fun h' tk hs => ?_
    have F := FS.moved (lent := [(I, o)]) (lent' := []) F.swap (s' := { s with heap := h', toks := tk }) ⟨_, _, rfl⟩ (fun b o hb e => hs b o (by simpa using hb) e) (fun p hp => nomatch hp) List.nodup_nil
    exact hR ys c g' _ m' F kg hJ

theorem two_core {xv : Value} {use : Option (Value → Sem Unit)} {Q : Value → Shared → Prop} (F : FS g₀ s₀ env ro m own g s) (src : Src prog w A g s xv n P)
    (hke : env.scope.kind = .function) (hks : scope.kind = .function) (hnd : (scope.names.map (·.1)).Nodup) (hfree : (scope.names.all fun x => x.2 != .free || (env.cells.lookup x.1).isSome) = true)
    (hx : ∀ C, (cEnv scope C env).kindOf x = some .local ∨ ((cEnv scope C env).kindOf x = some .cell ∧ x ∉ cRo scope)) (hy : ∀ C, (cEnv scope C env).kindOf y = some .local ∨ ((cEnv scope C env).kindOf y = some .cell ∧ y ∉ cRo scope)) (hxy : x ≠ y) (hJ : J 0 0 [] g)
    (turn : ∀ C, s.heap.objs.size ≤ C → CTurn2 prog w A g s (cEnv scope C env) (cRo scope) (cMap scope m) x y iter2 elt n P n2 P2 J)
    (hR : ∀ C D ys c g' s' m', FS g s (cEnv scope C env) (cRo scope) m' [(D, lo ys c)] g' s' → Kp g g' → J n 0 ys g' → compPost (model prog w) A E use Q (.ref D) C (.ok .next) s') (hs2 : ∀ C x, foldedSetIterable iter2 (cEnv scope C env) x = pure x) :
    wpAny (model prog w) A (pyIter xv) (fun it s₂ => wpAny (model prog w) A (newList []) (fun acc s₃ =>
      wpAny (model prog w) A (newFunctionEnv scope env.globals (clOf env.cells scope.names []) [] env.qual none .none (some env)) (fun cenv s₄ =>
        codeAny (model prog w) A (.compStart (two elt (.Name x px) iter (.Name y py) iter2 scope pos) 0 it acc { cenv with scope := relabel scope env }) (compPost (model prog w) A E use Q acc cenv.locals) s₄) E s₃) E s₂) E s := by
  obtain ⟨Ob, o, hf, W, ho, hiter⟩ := src
  refine hiter _ _ (wpAny_newObj_type (newEnv_comp ?_) (by show ([] : List Value).toArray.size ≤ sizeLine; rw [sizeLine_eq]; decide))
  have F1 := (F.push o hf).push (lo [] 0)
  have G : Grow g s g { s with heap := (s.heap.push o).push (lo [] 0) } := ⟨⟨_, _, rfl⟩, fun b ob e => Heap.get?_push_of_some _ (Heap.get?_push_of_some _ e), Kp.refl _, F1.kp, fun _ _ e => e⟩
  have none_of : ∀ a, s.heap.objs.size ≤ a → s.heap.get? a = none := fun a h => by
    cases q : s.heap.get? a with
    | none => rfl
    | some o => exact absurd (Heap.lt_size q) (Nat.not_lt.mpr h)
  dsimp only at F1
  rw [Heap.size_push] at F1
  have FC := FS.comp (scope := scope) (mineo := [(s.heap.objs.size + 1, lo [] 0), (s.heap.objs.size, o)]) F hke hnd hfree G (fun p hp => by
      simp only [List.mem_cons, List.not_mem_nil, or_false] at hp
      rcases hp with rfl | rfl
      · exact ⟨F1.ownGet (.head _), none_of _ (Nat.le_succ _), (F1.mine _ (.head _)).2.2.1⟩
      · exact ⟨F1.ownGet (.tail _ (.head _)), none_of _ (Nat.le_refl _), (F1.mine _ (.tail _ (.head _))).2.2.1⟩) (by simp)
  have hs : s.heap.objs.size ≤ ((s.heap.push o).push (lo [] 0)).objs.size := by rw [Heap.size_push, Heap.size_push]; omega
  have key := two_loop (R := compPost (model prog w) A E use Q (.ref (s.heap.objs.size + 1)) ((s.heap.push o).push (lo [] 0)).objs.size) (iter := iter) (px := px) (py := py) (pos := pos) (scope := scope) (turn _ hs) (W s.heap.objs.size) hks (hx _) (hy _) hxy ho hJ FC (fun ys c g' s' m' F' k' J' => hR _ _ ys c g' s' m' F' k' J') (hs2 _)
  rw [show ({ s with heap := s.heap.push o } : Shared).heap.objs.size = s.heap.objs.size + 1 from Heap.size_push ..]
  refine codeAny_compStart_list key ?_
  exact (W s.heap.objs.size).self 0 o _ _ _ ho (FC.ownGet (.tail _ (.head _))) key

theorem two_eval {Q : Value → Shared → Prop} {gx : Heap} {sx : Shared} (F0 : FS g₀ s₀ env ro m own gx sx) (hks : scope.kind = .function) (hke : env.scope.kind = .function) (hnd : (scope.names.map (·.1)).Nodup) (hfree : (scope.names.all fun x => x.2 != .free || (env.cells.lookup x.1).isSome) = true)
    (hx : ∀ C, (cEnv scope C env).kindOf x = some .local ∨ ((cEnv scope C env).kindOf x = some .cell ∧ x ∉ cRo scope)) (hy : ∀ C, (cEnv scope C env).kindOf y = some .local ∨ ((cEnv scope C env).kindOf y = some .cell ∧ y ∉ cRo scope)) (hxy : x ≠ y)
    (h : wpAny (model prog w) A (eval iter env) (fun xv s₁ => ∃ g₁ : Heap, FS g₀ s₀ env ro m own g₁ s₁ ∧ Src prog w A g₁ s₁ xv n P ∧ J 0 0 [] g₁ ∧
      (∀ C, s₁.heap.objs.size ≤ C → CTurn2 prog w A g₁ s₁ (cEnv scope C env) (cRo scope) (cMap scope m) x y iter2 elt n P n2 P2 J) ∧ (∀ ys g g', Kp g g' → J n 0 ys g → J n 0 ys g') ∧
      ∀ D ys g' s', FS g₀ s₀ env ro m own g' s' → Kp g₁ g' → LL g' D ys → J n 0 ys g' → Q (.ref D) s') E s)
    (hs : ∀ x, foldedSetIterable iter env x = pure x := by intro _; rfl) (hs2 : ∀ C x, foldedSetIterable iter2 (cEnv scope C env) x = pure x := by intro _ _; rfl) :
    wpAny (model prog w) A (eval (two elt (.Name x px) iter (.Name y py) iter2 scope pos) env) Q E s := by
  rw [eval_ListComp]
  have hnames : ∀ x ∈ scope.names, x.2 = .local → scope.names.lookup x.1 = some .local := fun y hy e => by
    obtain ⟨a, b⟩ := y; dsimp only at e; subst e; exact lookup_mem_nodup hnd hy
  refine wpAny_comprehension_free (use := none) rfl hs (closureFor_clOf hfree) hks hnames (wpAny_mono h (fun xv s₁ h₁ => ?_) fun _ _ e => e)
  obtain ⟨g₁, F, src, hJ, turn, hJm, hQ⟩ := h₁
  refine two_core F src hke hks hnd hfree hx hy hxy hJ turn (fun C D ys c g' s' m' FC k' J' => ?_) hs2
  obtain ⟨oC, ml, e1, e2, R⟩ := comp_ret FC
  refine ⟨ml, e2 _ e1, fun h' hs' => ?_⟩
  have F1 := FS.back (lent := []) (own := own) F R
  have F2 := FS.moved (lent := [(C, oC)]) (lent' := []) (own := (D, lo ys c) :: own) F1 (s' := { s' with heap := h' }) ⟨_, _, rfl⟩ (fun b o hb e => hs'.extBut b o (by simpa using hb) e) (fun p hp => nomatch hp) List.nodup_nil
  obtain ⟨g2, F3, k3, e3⟩ := FS.freeze F2
  exact hQ D ys g2 _ F3 (k'.trans k3) ⟨c, e3⟩ (hJm _ _ _ k3 J')
end
end Mine
end

section
set_option maxRecDepth 100000
set_option autoImplicit false
set_option linter.unusedVariables false
set_option linter.unusedSimpArgs false
open PySem PySem.W PyProof.Rows
namespace Mine
local macro_rules | `(tactic| walk_at "body") => `(tactic| (unfold bodyAt; conv => (arg 3; arg 1; whnf)))
local macro_rules | `(tactic| walk_at "bind") => `(tactic| (refine BindsTo.of_eq ?_; unfold fdAt; (conv => lhs; arg 1; whnf); rfl))

section
variable {prog : Program} {w : World} {A : Around} {E : Value → Shared → Prop} {g₀ g : Heap} {s₀ s : Shared} {env : Env} {ro : List Str} {m : Str → Option Value} {own : List (Addr × Obj)}
theorem addI {a b : Int} {t u : Tok} {Q : Value → Shared → Prop} (F : FS g₀ s₀ env ro m own g s) (h : ∀ t s', FS g₀ s₀ env ro m own g s' → s'.heap = s.heap → Q (.int (a + b) t) s') : wpAny (model prog w) A (binaryOp .Add (.int a t) (.int b u)) Q E s :=
  PyProof.Rows.add_int (h _ _ (F.tok _) rfl)
theorem modI {a b : Int} {t u : Tok} {Q : Value → Shared → Prop} (F : FS g₀ s₀ env ro m own g s) (hb : b ≠ 0) (h : ∀ t s', FS g₀ s₀ env ro m own g s' → s'.heap = s.heap → Q (.int (a.fmod b) t) s') : wpAny (model prog w) A (binaryOp .Mod (.int a t) (.int b u)) Q E s :=
  PyProof.Rows.mod_int hb (h _ _ (F.tok _) rfl)
theorem lenF {l : Addr} {vs : List Value} {Q : Value → Shared → Prop} (F : FS g₀ s₀ env ro m own g s) (hl : LL s.heap l vs) (hz : vs.length ≤ sizeLine) (h : ∀ t s', FS g₀ s₀ env ro m own g s' → s'.heap = s.heap → Q (.int vs.length t) s') :
    wpAny (model prog w) A (call (.builtin "len") [.ref l]) Q E s := by
  rw [sizeLine_eq] at hz
  refine PySem.Calls.call_len_list hl.isList (by simp; omega) ?_
  rw [List.size_toArray]
  exact h _ _ (F.tok _) rfl
theorem range1_F {n : Nat} {t : Tok} {Q : Value → Shared → Prop} (hh : A.handled = none) (F : FS g₀ s₀ env ro m own g s) (hn : n < 2 ^ 60)
    (h : ∀ g' r s', FS g₀ s₀ env ro m own g' s' → Kp g g' → Src prog w A g' s' (.ref r) n (fun k v => ∃ t, v = .int (0 + k) t) → Q (.ref r) s') : wpAny (model prog w) A (call (.type "range") [.int n t]) Q E s := by
  refine PySem.call_range_1 ?_
  obtain ⟨g', G, e⟩ := grow_push F.kp { cls := .type "range", data := .fields #[.int 0 s.toks, .int n t, .int 1 (s.toks + 1)] }
  have F' := (F.on G).tok (s.toks + 1 + 1)
  exact h g' _ _ F' G.gg (Src.range hh (F'.kp _ _ e) (by omega) (by omega) (by omega))
theorem range2_F {a b : Int} {n : Nat} {t u : Tok} {Q : Value → Shared → Prop} (hh : A.handled = none) (F : FS g₀ s₀ env ro m own g s) (hn : (n : Int) = b - a) (ha : -(2 ^ 60) ≤ a) (hb : b < 2 ^ 60)
    (h : ∀ g' r s', FS g₀ s₀ env ro m own g' s' → Kp g g' → Src prog w A g' s' (.ref r) n (fun k v => ∃ t, v = .int (a + k) t) → Q (.ref r) s') : wpAny (model prog w) A (call (.type "range") [.int a t, .int b u]) Q E s := by
  refine PySem.call_range_2 ?_
  obtain ⟨g', G, e⟩ := grow_push F.kp { cls := .type "range", data := .fields #[.int a t, .int b u, .int 1 s.toks] }
  have F' := (F.on G).tok (s.toks + 1)
  exact h g' _ _ F' G.gg (Src.range hh (F'.kp _ _ e) hn (by omega) (by omega))
end

/-- an order, and an agent at every place of it -/
def wid (a : Ag) (x : List Ag) : List (List Ag) := (List.range (x.length + 1)).map fun k => x.take k ++ a :: x.drop k
theorem wid_get {a : Ag} {x : List Ag} {j : Nat} (h : j < x.length + 1) : (wid a x)[j]? = some (x.take j ++ a :: x.drop j) := by
  unfold wid; rw [List.getElem?_map, List.getElem?_range h]; rfl
theorem wid_len (a : Ag) (x : List Ag) : (wid a x).length = x.length + 1 := by simp [wid]
def widTo (a : Ag) (xss : List (List Ag)) (k j : Nat) : List (List Ag) := (xss.take k).flatMap (wid a) ++ (match xss[k]? with | some x => (wid a x).take j | none => [])
def wn (xss : List (List Ag)) (k : Nat) : Nat := match xss[k]? with | some x => x.length + 1 | none => 0
theorem widTo_len {a : Ag} {xss : List (List Ag)} {k j : Nat} : (widTo a xss k j).length ≤ (xss.flatMap (wid a)).length := by
  unfold widTo
  by_cases hk : k < xss.length
  · rw [List.getElem?_eq_getElem hk]
    have e : xss = xss.take k ++ xss[k] :: xss.drop (k + 1) := by rw [← List.drop_eq_getElem_cons hk, List.take_append_drop]
    conv => rhs; rw [e]
    simp only [List.flatMap_append, List.flatMap_cons, List.length_append, List.length_take]
    omega
  · rw [List.getElem?_eq_none (by omega), List.take_of_length_le (by omega)]; simp

theorem widTo_succ {a : Ag} {xss : List (List Ag)} {k j : Nat} {x : List Ag} (hx : xss[k]? = some x) (hj : j ≤ x.length) : widTo a xss k (j + 1) = widTo a xss k j ++ [x.take j ++ a :: x.drop j] := by
  unfold widTo
  rw [hx]
  simp only
  rw [List.take_add_one, wid_get (by omega), List.append_assoc]; rfl
theorem widTo_next {a : Ag} {xss : List (List Ag)} {k : Nat} {x : List Ag} (hx : xss[k]? = some x) : widTo a xss k (wn xss k) = widTo a xss (k + 1) 0 := by
  unfold widTo wn
  rw [hx]
  simp only
  have e1 : (wid a x).take (x.length + 1) = wid a x := List.take_of_length_le (by rw [wid_len]; exact Nat.le_refl _)
  have e2 : xss.take (k + 1) = xss.take k ++ [x] := by rw [List.take_add_one, hx]; rfl
  rw [e1, e2]
  cases xss[k + 1]? <;> simp
theorem widTo_end {a : Ag} {xss : List (List Ag)} : widTo a xss xss.length 0 = xss.flatMap (wid a) := by
  unfold widTo
  rw [List.getElem?_eq_none (Nat.le_refl _), List.take_length]; simp
def WJ (a : Ag) (xss : List (List Ag)) (k j : Nat) (ys : List Value) (g : Heap) : Prop := ∃ as : List Addr, ys = as.map Value.ref ∧ Pw (LS g) as (widTo a xss k j)

section
variable {prog : Program} {w : World} {A : Around} {E : Value → Shared → Prop} {g₀ g : Heap} {s₀ s : Shared} {env : Env} {ro : List Str} {m : Str → Option Value} {own : List (Addr × Obj)}
set_option maxHeartbeats 1000000 in
theorem widened_ok {O : Addr} {xss : List (List Ag)} {a : Ag} {ta : Tok} {Q : Value → Shared → Prop} (L : Ld w g) (k : Kp g s.heap) (rm : Rm 5 A) (hO : LR g O xss) (hz1 : xss.length ≤ 1000) (hz : ∀ x ∈ xss, x.length ≤ 1000) (hz2 : (xss.flatMap (wid a)).length ≤ 1000)
    (h : ∀ g' s' c, Grow g s g' s' → LR g' c (xss.flatMap (wid a)) → Q (.ref c) s') : wpAny (model prog w) A (call (.ref 101) [.ref O, .str (nm a) ta]) Q E s := by
  refine wpAny_call ?_
  refine call_at 101 (binds := [(Str.ofString "orders", .ref O), (Str.ofString "agent", .str (nm a) ta)]) [] L k (fun _ h => nomatch h) List.nodup_nil rm.room rfl rfl rfl (by walk_at "bind") rfl rfl rfl rfl rfl fun s₁ F => ?_
  walk_at "body"
  have rm1 : Rm 4 (A.deeper (envAt w 101 s.heap.objs.size)) := rm.deeper
  obtain ⟨as, hA, hP⟩ := hO
  refine wpAny_execs_cons (wpAny_Return_some ?_)
  refine two_eval F (n := (as.map Value.ref).length) (P := fun k v => (as.map Value.ref)[k]? = some v) (n2 := wn xss) (P2 := fun k j u => ∃ t, u = .int (0 + j) t) (J := WJ a xss) rfl rfl (by decide) rfl (fun C => .inl rfl) (fun C => .inl rfl) (by decide) (nmF F rfl (.inl rfl) rfl ?_)
  refine ⟨g, F, Src.list rm1.hh F.kp hA, ⟨[], rfl, ⟨by unfold widTo; cases xss[0]? <;> simp, fun i b x e => by simp at e⟩⟩, fun C hC => ?_, fun ys g g' kg h => ?_, fun D ys g2 s₅ F2 k2 hD hJ => ?_⟩
  · have hat : ∀ (i : Nat) (v : Value), (as.map Value.ref)[i]? = some v → ∃ b x, v = .ref b ∧ xss[i]? = some x ∧ LS g b x ∧ x.length ≤ 1000 := fun i v hv => by
      rw [List.getElem?_map] at hv
      cases hb : as[i]? with
      | none => rw [hb] at hv; cases hv
      | some b =>
        rw [hb] at hv
        obtain ⟨x, hx, hl⟩ := hP.at hb
        exact ⟨b, x, (Option.some.inj hv).symm, hx, hl, hz x (List.mem_of_getElem? hx)⟩
    refine ⟨fun i v m' own g' s' E' hi hPv kg hm hx F => ?_, fun i j v u ys m' own g' s' E' hi hj hPv hPu kg hm hx hy hJ F => ?_, fun i v ys g' hi hPv hJ => ?_, fun i j ys g g' kg hJ => ?_, fun i j ys g' hi hj hJ => ?_⟩
    · obtain ⟨b, x, rfl, hxe, ⟨ps, hps, hl⟩, hxz⟩ := hat i v hPv
      have hpl : ps.length = x.length := by rw [← hps, List.length_map]
      refine callT (L.mono (kg.trans F.kp)) rfl rfl rfl rfl rfl Boot.range (spliced_more ?_)
      refine wpAny_BinOp ?_
      refine callB (L.mono (kg.trans F.kp)) rfl rfl rfl rfl rfl Boot.len (spliced_more (nmF F rfl (.inl rfl) hx (spliced_none ?_)))
      refine lenF F ((hl.mono kg).mono F.kp) (by rw [sizeLine_eq, List.length_map]; omega) fun t1 s2 F e2 => ?_
      refine cInt F fun t2 s3 F e3 => addI F fun t3 s4 F e4 => spliced_none ?_
      have en : (((ps.map sv).length : Int) + 1) = ((wn xss i : Nat) : Int) := by unfold wn; rw [hxe, List.length_map, hpl]; simp
      rw [en]
      refine range1_F rm1.hh F (by unfold wn; rw [hxe]; simp only; omega) fun g5 r s5 F k5 src => ⟨g5, F, k5, src⟩
    · obtain ⟨b, x, rfl, hxe, ⟨ps, hps, hl⟩, hxz⟩ := hat i v hPv
      obtain ⟨tu, rfl⟩ := hPu
      have hpl : ps.length = x.length := by rw [← hps, List.length_map]
      have hj' : j ≤ x.length := by unfold wn at hj; rw [hxe] at hj; simp only at hj; omega
      have e0 : (0 + (j : Int)) = ((j : Nat) : Int) := by omega
      rw [e0] at hy
      have hag : m' (Str.ofString "agent") = some (.str (nm a) ta) := (hm _ (by decide) (by decide)).trans rfl
      refine wpAny_BinOp (wpAny_BinOp (slice_N (nmF F rfl (.inl rfl) hx (wpAny_evalPart_none (wpAny_evalPart_some (nmF F rfl (.inl rfl) hy ?_)))) (fun _ _ => rfl)))
      refine ⟨g', b, ps.map sv, none, some j, rfl, F.kp, (hl.mono kg).mono F.kp, by rw [sizeLine_eq, List.length_map]; omega, .none, .int _ _, fun g1 c1 s1 G1 hn1 hc1 => ?_⟩
      rw [slicePick_upto _ j (by simp; omega)] at hc1
      have F := F.on G1
      refine List_ (spliced_more (nmF F rfl (.inr rfl) hag (spliced_none (newList_G F.kp fun g2 c2 s2 G2 hc2 => ?_))))
      have F := F.on G2
      refine add_G F.kp ⟨0, F.kp _ _ (G2.gg _ _ hc1)⟩ (hc2.mono F.kp) (fun g3 c3 s3 G3 hc3 => ?_) (by rw [sizeLine_eq]; simp; omega)
      have F := F.on G3
      have kg3 := ((kg.trans G1.gg).trans G2.gg).trans G3.gg
      refine slice_N (nmF F rfl (.inl rfl) hx (wpAny_evalPart_some (nmF F rfl (.inl rfl) hy (wpAny_evalPart_none ?_)))) (fun _ _ => rfl)
      refine ⟨g3, b, ps.map sv, some j, none, rfl, F.kp, (hl.mono kg3).mono F.kp, by rw [sizeLine_eq, List.length_map]; omega, .int _ _, .none, fun g4 c4 s4 G4 hn4 hc4 => ?_⟩
      rw [slicePick_from _ j (by simp; omega)] at hc4
      have F := F.on G4
      refine add_G F.kp ((hc3.mono G4.gg).mono F.kp) ⟨0, F.kp _ _ hc4⟩ (fun g5 c5 s5 G5 hc5 => ?_) (by rw [sizeLine_eq]; simp; omega)
      obtain ⟨as', rfl, hW⟩ := hJ
      have kk : Kp g' g5 := (((G1.gg.trans G2.gg).trans G3.gg).trans G4.gg).trans G5.gg
      refine ⟨g5, F.on G5, kk, as' ++ [c5], by simp, ?_⟩
      rw [widTo_succ hxe hj']
      refine (hW.mono fun _ _ h => h.mono kk).snoc ⟨ps.take j ++ (a, ta) :: ps.drop j, ?_, ?_⟩
      · rw [← hps]; simp
      · have e : (ps.take j ++ (a, ta) :: ps.drop j).map sv = (((ps.map sv).toArray.toList.take j).toArray.toList ++ [Value.str (nm a) ta]) ++ ((ps.map sv).toArray.toList.drop j).toArray.toList := by simp
        rw [e]; exact hc5
    · obtain ⟨b, x, rfl, hxe, _⟩ := hat i v hPv
      obtain ⟨as', rfl, hW⟩ := hJ
      refine ⟨as', rfl, ?_⟩
      rw [← widTo_next hxe]; exact hW
    · obtain ⟨as', rfl, hW⟩ := hJ
      exact ⟨as', rfl, hW.mono fun _ _ h => h.mono kg⟩
    · obtain ⟨as', rfl, hW⟩ := hJ
      have := hW.1
      have h2 := widTo_len (a := a) (xss := xss) (k := i) (j := j)
      rw [sizeLine_eq, List.length_map]; omega
  · obtain ⟨as', rfl, hW⟩ := h
    exact ⟨as', rfl, hW.mono fun _ _ h => h.mono kg⟩
  · obtain ⟨as', rfl, hW⟩ := hJ
    rw [List.length_map, hP.1, widTo_end] at hW
    exact h g2 _ D F2.ret.toGrow ⟨as', hD, hW⟩
end
end Mine
end

section
set_option maxRecDepth 100000
set_option autoImplicit false
set_option linter.unusedVariables false
set_option linter.unusedSimpArgs false
open PySem PySem.W PyProof.Rows
namespace Mine
local macro_rules | `(tactic| walk_at "body") => `(tactic| (unfold bodyAt; conv => (arg 3; arg 1; whnf)))
local macro_rules | `(tactic| walk_at "bind") => `(tactic| (refine BindsTo.of_eq ?_; unfold fdAt; (conv => lhs; arg 1; whnf); rfl))

section
variable {prog : Program} {w : World} {A : Around} {E : Value → Shared → Prop} {g₀ g : Heap} {s₀ s : Shared} {env : Env} {ro : List Str} {m : Str → Option Value} {own : List (Addr × Obj)}
theorem iter_F {l : Addr} {vs : List Value} {Q : Value → Shared → Prop} (F : FS g₀ s₀ env ro m own g s) (hl : LL s.heap l vs)
    (h : ∀ I o s', FS g₀ s₀ env ro m ((I, o) :: own) g s' → liOb l 0 o → Q (.ref I) s') : wpAny (model prog w) A (call (.builtin "iter") [.ref l]) Q E s := by
  refine PySem.Calls.call_function_entry (by decide +kernel) (by decide +kernel) kdk_entry_iter (kdk_args_iter _) ?_
  unfold Builtin.«iter»
  refine wpAny_bind (m := someArgs "iter" 1 2 _) (wpAny_of_eq (a := [Value.ref l]) (by first | rfl | kernel_rfl!) ?_)
  show wpAny _ _ (pyIter (.ref l) >>= _) _ _ _
  refine wpAny_bind (wpAny_pyIter_list hl.isList ?_)
  exact wpAny_pure ⟨_, rfl, h _ _ _ (F.push _) ⟨rfl, rfl⟩⟩
theorem next_F {I l : Addr} {o : Obj} {i : Nat} {vs : List Value} {x : Value} {Q : Value → Shared → Prop} (F : FS g₀ s₀ env ro m ((I, o) :: own) g s) (ho : liOb l i o) (hl : LL s.heap l vs) (hx : vs[i]? = some x)
    (h : ∀ o' s', FS g₀ s₀ env ro m ((I, o') :: own) g s' → liOb l (i + 1) o' → Q x s') : wpAny (model prog w) A (call (.builtin "next") [.ref I]) Q E s := by
  have hit : s.heap.IsListIter I l i := ⟨o, F.ownGet (.head _), ho.1, ho.2⟩
  refine PySem.Calls.call_function_entry (by decide +kernel) (by decide +kernel) kdk_entry_next (kdk_args_next _) ?_
  unfold Builtin.«next»
  refine wpAny_bind (m := someArgs "next" 1 2 _) (wpAny_of_eq (a := [Value.ref I]) (by first | rfl | kernel_rfl!) ?_)
  dsimp only
  refine wpAny_bind (wpAny_specialOf (name := Str.ofString "__next__") hit.typeIs slot_listiter_next.lookup ?_)
  refine wpAny_ite_split (fun hab => absurd hab (by decide)) (fun _ => ?_)
  refine wpAny_bind (li_next_item hit hl.isList (x := x) (by simpa using hx) fun h' hit' hs => ?_)
  obtain ⟨o', ho', hc', hd'⟩ := hit'
  exact wpAny_pure ⟨_, rfl, h o' _ (F.upd (tk := s.toks) hs.extBut ho') ⟨hc', hd'⟩⟩
end

section
variable {prog : Program} {w : World} {A : Around} {E : Value → Shared → Prop} {g : Heap} {s : Shared}
/-- what is asked of the function that reduce calls -/
def RStep (prog : Program) (w : World) (N : Nat) (g : Heap) (f : Value) (vs : List Value) (Inv : Nat → Value → Heap → Prop) : Prop :=
  ∀ (A : Around) (k : Nat) (v u : Value) (g' : Heap) (s' : Shared) (Q' : Value → Shared → Prop) (E' : Value → Shared → Prop), Rm N A → Kp g g' → Kp g' s'.heap → vs[k]? = some u → Inv k v g' →
    (∀ g'' s'' r, Grow g' s' g'' s'' → Inv (k + 1) r g'' → Q' r s'') → wpAny (model prog w) A (call f [v, u]) Q' E' s'

set_option maxHeartbeats 1000000 in
theorem reduce3_ok {N : Nat} {f : Value} {l D : Addr} {oD : Obj} {vs : List Value} {Inv : Nat → Value → Heap → Prop} {Q : Value → Shared → Prop} (L : Ld w g) (k : Kp g s.heap) (rm : Rm (N + 1) A) (hkeep : keepIn (KF w) f = true) (hl : LL g l vs)
    (hD : g.get? D = some oD) (hDc : oD.cls = .type "list") (h0 : Inv 0 (.ref D) g) (step : RStep prog w N g f vs Inv)
    (h : ∀ g' s' r, Grow g s g' s' → Inv vs.length r g' → Q r s') : wpAny (model prog w) A (call (.ref 30) [f, .ref l, .ref D]) Q E s := by
  refine wpAny_call ?_
  refine call_at 30 (binds := [(Str.ofString "function", f), (Str.ofString "sequence", .ref l), (Str.ofString "initial", .ref D)]) [] L k (fun _ h => nomatch h) List.nodup_nil rm.room rfl rfl rfl ?_ rfl rfl rfl rfl rfl fun s₁ F => ?_
  · refine binds_K (L.X.keeps k) (T := 23) rfl rfl rfl rfl rfl
  walk_at "body"
  have rm1 : Rm N (A.deeper (envAt w 30 s.heap.objs.size)) := rm.deeper
  refine wpAny_execs_cons (wpAny_Assign_Name (callB (L.mono F.kp) rfl rfl rfl rfl rfl Boot.iter (spliced_more (nmF F rfl (.inl rfl) rfl (spliced_none (iter_F F (hl.mono F.kp) fun I o s₂ F ho => stF F rfl (.inl rfl) fun s₃ F => ?_))))) rfl)
  have hne : D ≠ 22 := fun q => by
    have h1 := L.X 22 _ rfl
    rw [← q, hD] at h1
    have h2 := congrArg (fun o : Option Obj => o.map (·.cls)) h1
    simp only [Option.map_some, Option.some.injEq, hDc] at h2
    exact absurd h2 (by decide)
  refine wpAny_execs_cons (wpAny_If (wpAny_isTrue_Compare1 (nmF F rfl (.inl rfl) rfl (glF (L.mono F.kp) rfl rfl rfl rfl (wpAny_is_ref_other hne (F.kp _ _ hD) (F.kp _ _ (L.X 22 _ rfl)) (by rw [hDc]; decide) (wpAny_truthy_bool ?_))))))
  rw [if_neg (by decide)]
  refine wpAny_execs_cons (wpAny_Assign_Name (nmF F rfl (.inl rfl) rfl (stF F rfl (.inl rfl) fun s₄ F => ?_)) rfl)
  refine wpAny_execs_nil ?_
  refine wpAny_execs_cons (wpAny_For (nmF F rfl (.inl rfl) rfl ((Itr.list rm1.hh hl).self 0 o _ _ _ ho (F.ownGet (.head _)) (for_code (fun k m own g => own = [] ∧ m (Str.ofString "function") = some f ∧ ∃ v, m (Str.ofString "value") = some v ∧ Inv k v g) (Itr.list rm1.hh hl) rfl (.inl rfl) ?_ ?_ (Nat.zero_le _) ho F ⟨rfl, rfl, _, rfl, h0⟩))))
  · intro i u p m1 own1 g1 s5 E1 hi hu kg hJ F
    obtain ⟨rfl, mf, v, mv, hI⟩ := hJ
    refine wpAny_execs_cons (wpAny_Assign_Name (Call_Name rfl (nmF F rfl (.inl rfl) mf (callWith_K (L.X.keeps (kg.trans F.kp)) hkeep (first := []) (spliced_more (nmF F rfl (.inl rfl) mv (spliced_more (nmF F rfl (.inl rfl) rfl (spliced_none ⟨L.X.keeps (kg.trans F.kp), ?_⟩)))))))) rfl)
    refine step _ i v u g1 s5 _ _ rm1 kg F.kp hu hI fun g2 s6 r G hI2 => ?_
    have F := F.on G
    refine stF F rfl (.inl rfl) fun s7 F => wpAny_execs_nil ?_
    exact ⟨_, _, g2, F, G.gg, rfl, mf, r, rfl, hI2⟩
  · intro m1 own1 g1 s5 E1 kg hJ F
    obtain ⟨rfl, mf, v, mv, hI⟩ := hJ
    refine wpAny_execs_nil (wpAny_execs_cons (wpAny_Return_some (nmF F rfl (.inl rfl) mv ?_)))
    exact h g1 _ v F.ret.toGrow hI

set_option maxHeartbeats 1000000 in
theorem reduce2_ok {N : Nat} {f v0 : Value} {l : Addr} {vs : List Value} {Inv : Nat → Value → Heap → Prop} {Q : Value → Shared → Prop} (L : Ld w g) (k : Kp g s.heap) (rm : Rm (N + 1) A) (hkeep : keepIn (KF w) f = true) (hl : LL g l vs)
    (hv : vs[0]? = some v0) (h0 : Inv 1 v0 g) (step : RStep prog w N g f vs Inv)
    (h : ∀ g' s' r, Grow g s g' s' → Inv vs.length r g' → Q r s') : wpAny (model prog w) A (call (.ref 30) [f, .ref l]) Q E s := by
  have hpos : 1 ≤ vs.length := (List.getElem?_eq_some_iff.mp hv).1
  refine wpAny_call ?_
  refine call_at 30 (binds := [(Str.ofString "function", f), (Str.ofString "sequence", .ref l), (Str.ofString "initial", .ref 22)]) [] L k (fun _ h => nomatch h) List.nodup_nil rm.room rfl rfl rfl ?_ rfl rfl rfl rfl rfl fun s₁ F => ?_
  · refine binds_K (L.X.keeps k) (T := 23) rfl rfl rfl rfl rfl
  walk_at "body"
  have rm1 : Rm N (A.deeper (envAt w 30 s.heap.objs.size)) := rm.deeper
  refine wpAny_execs_cons (wpAny_Assign_Name (callB (L.mono F.kp) rfl rfl rfl rfl rfl Boot.iter (spliced_more (nmF F rfl (.inl rfl) rfl (spliced_none (iter_F F (hl.mono F.kp) fun I o s₂ F ho => stF F rfl (.inl rfl) fun s₃ F => ?_))))) rfl)
  refine wpAny_execs_cons (wpAny_If (wpAny_isTrue_Compare1 (nmF F rfl (.inl rfl) rfl (glF (L.mono F.kp) rfl rfl rfl rfl (wpAny_is_ref_self (wpAny_truthy_bool ?_))))))
  rw [if_pos rfl]
  refine wpAny_execs_cons (wpAny_Try_except ?_)
  refine wpAny_execs_cons (wpAny_Assign_Name (callB (L.mono F.kp) rfl rfl rfl rfl rfl Boot.next (spliced_more (nmF F rfl (.inl rfl) rfl (spliced_none (next_F F ho (hl.mono F.kp) hv fun o s₄ F ho => stF F rfl (.inl rfl) fun s₅ F => ?_))))) rfl)
  refine wpAny_execs_nil (wpAny_execs_nil (wpAny_execs_nil ?_))
  refine wpAny_execs_cons (wpAny_For (nmF F rfl (.inl rfl) rfl ((Itr.list rm1.hh hl).self 1 o _ _ _ ho (F.ownGet (.head _)) (for_code (fun k m own g => own = [] ∧ m (Str.ofString "function") = some f ∧ ∃ v, m (Str.ofString "value") = some v ∧ Inv k v g) (Itr.list rm1.hh hl) rfl (.inl rfl) ?_ ?_ hpos ho F ⟨rfl, rfl, _, rfl, h0⟩))))
  · intro i u p m1 own1 g1 s5 E1 hi hu kg hJ F
    obtain ⟨rfl, mf, v, mv, hI⟩ := hJ
    refine wpAny_execs_cons (wpAny_Assign_Name (Call_Name rfl (nmF F rfl (.inl rfl) mf (callWith_K (L.X.keeps (kg.trans F.kp)) hkeep (first := []) (spliced_more (nmF F rfl (.inl rfl) mv (spliced_more (nmF F rfl (.inl rfl) rfl (spliced_none ⟨L.X.keeps (kg.trans F.kp), ?_⟩)))))))) rfl)
    refine step _ i v u g1 s5 _ _ rm1 kg F.kp hu hI fun g2 s6 r G hI2 => ?_
    have F := F.on G
    refine stF F rfl (.inl rfl) fun s7 F => wpAny_execs_nil ?_
    exact ⟨_, _, g2, F, G.gg, rfl, mf, r, rfl, hI2⟩
  · intro m1 own1 g1 s5 E1 kg hJ F
    obtain ⟨rfl, mf, v, mv, hI⟩ := hJ
    refine wpAny_execs_nil (wpAny_execs_cons (wpAny_Return_some (nmF F rfl (.inl rfl) mv ?_)))
    exact h g1 _ v F.ret.toGrow hI
end
end Mine
end

section
set_option maxRecDepth 100000
set_option autoImplicit false
set_option linter.unusedVariables false
set_option linter.unusedSimpArgs false
open PySem PySem.W PyProof.Rows
namespace Mine
open PySem.AutoSeq1 (wpAny_loadPart')
open PySem.SeqAt PySem.MeetsSeq3

def LtAt (A : Around) (s : Shared) (y x : Value) (b : Bool) : Prop :=
  ∀ (prog : Program) (w : World) (E : Value → Shared → Prop) (Q : Value → Shared → Prop), Q (.bool b) s → wpAny (model prog w) A (richCompare .Lt y x) Q E s

def lexB (e c : Nat → Bool) (n1 n2 : Nat) : Nat → Nat → Bool
  | 0, _ => decide (n1 < n2)
  | k + 1, i => if e i then lexB e c n1 n2 k (i + 1) else c i

theorem lt_loop (l b : Addr) (items items2 : Array Value) (n n2 : Nat) (e c : Nat → Bool) (k : Nat) :
    ∀ i : Nat, min items.size items2.size - i = k → i ≤ min items.size items2.size → Meets (Builtin.«list.__eq__.loop» ⟨[.ref l, .ref b, rawInt i, rawInt 0], []⟩)
      (fun A R s => s.heap.get? l = some { cls := .type "list", dict := none, data := .seq items n, slots := #[] } ∧ s.heap.get? b = some { cls := .type "list", dict := none, data := .seq items2 n2, slots := #[] } ∧
        (∀ j (h1 : j < items.size) (h2 : j < items2.size), EqAt A.in1 s items[j] items2[j] (e j)) ∧ (∀ j (h1 : j < items.size) (h2 : j < items2.size), e j = false → LtAt A.in1 s items[j] items2[j] (c j)) ∧
        R (.ok (.ret (.bool (lexB e c items.size items2.size k i)))) s) := by
  induction k with
  | zero =>
    intro i hk hle prog w A R s h
    obtain ⟨hp, g, d, tk, os⟩ := s; obtain ⟨hl, hb, he, hc, h⟩ := h
    wp_walk using wpAny_loadPart' hl, wpAny_loadPart' hb
    have hor : items.size ≤ i ∨ items2.size ≤ i := by omega
    have key : ((items[((i : Nat) : Int).toNat]?), (items2[((i : Nat) : Int).toNat]?)) = (items[i]?, items2[i]?) := by simp
    rcases hor with ho | ho
    · have hi1 : items[((i : Nat) : Int).toNat]? = none := by simp; omega
      rw [hi1]
      wp_walk using wpAny_loadPart' hl, wpAny_loadPart' hb
      exact h
    · have hi2 : items2[((i : Nat) : Int).toNat]? = none := by simp; omega
      rw [hi2]
      cases hi1 : items[((i : Nat) : Int).toNat]? with
      | none =>
        wp_walk using wpAny_loadPart' hl, wpAny_loadPart' hb
        exact h
      | some x =>
        wp_walk using wpAny_loadPart' hl, wpAny_loadPart' hb
        exact h
  | succ k ih =>
    intro i hk hle prog w A R s h
    obtain ⟨hp, g, d, tk, os⟩ := s; obtain ⟨hl, hb, he, hc, h⟩ := h
    wp_walk using wpAny_loadPart' hl, wpAny_loadPart' hb
    have hlt : i < items.size := by omega
    have hlt2 : i < items2.size := by omega
    have hi1 : items[((i : Nat) : Int).toNat]? = some items[i] := by simp [hlt]
    have hi2 : items2[((i : Nat) : Int).toNat]? = some items2[i] := by simp [hlt2]
    have hcast : ((i : Int) + 1) = ((i + 1 : Nat) : Int) := by push_cast; rfl
    rw [hi1, hi2]
    refine wpAny_bind (he i hlt hlt2 prog w _ _ ?_)
    unfold lexB at h
    cases hb' : e i with
    | true =>
      rw [hb', if_pos rfl] at h
      wp_walk
      rw [hcast]
      exact ⟨plainId_quiet plain_eq_loop _, codeAny_builtin entry_eq_loop (by
        rw [Around.under_plainId plain_eq_loop _]
        exact ih (i + 1) (by omega) (by omega) prog w A R _ ⟨hl, hb, he, hc, h⟩)⟩
    | false =>
      rw [hb', if_neg (by decide)] at h
      wp_walk using wpAny_loadPart' hl, wpAny_loadPart' hb
      rw [hi1, hi2]
      refine wpAny_bind (hc i hlt hlt2 hb' prog w _ _ ?_)
      wp_walk
      exact h

theorem list_lt (l b : Addr) (items items2 : Array Value) (n n2 : Nat) (e c : Nat → Bool) :
    Meets (Builtin.«list.__lt__» ⟨[.ref l, .ref b], []⟩)
      (fun A R s => s.heap.get? l = some { cls := .type "list", dict := none, data := .seq items n, slots := #[] } ∧ s.heap.get? b = some { cls := .type "list", dict := none, data := .seq items2 n2, slots := #[] } ∧
        (∀ j (h1 : j < items.size) (h2 : j < items2.size), EqAt A.in1 s items[j] items2[j] (e j)) ∧ (∀ j (h1 : j < items.size) (h2 : j < items2.size), e j = false → LtAt A.in1 s items[j] items2[j] (c j)) ∧
        R (.ok (.ret (.bool (lexB e c items.size items2.size (min items.size items2.size) 0)))) s) := by
  intro prog w A R s h
  obtain ⟨hp, g, d, tk, os⟩ := s; obtain ⟨hl, hb, he, hc, h⟩ := h
  have f3 := AutoSeq1.sub_list_list
  wp_walk using wpAny_loadPart' hl, wpAny_loadPart' hb
  exact ⟨plainId_quiet plain_eq_loop _, codeAny_builtin entry_eq_loop (by
    rw [Around.under_plainId plain_eq_loop _]
    exact lt_loop l b items items2 n n2 e c _ 0 rfl (Nat.zero_le _) prog w A R _ ⟨hl, hb, he, hc, h⟩)⟩

theorem LtAt.lists {A : Around} {s : Shared} {l b : Addr} {vs ws : List Value} {e c : Nat → Bool} (hl : LL s.heap l vs) (hb : LL s.heap b ws) (hu : A.units < cLine)
    (he : ∀ j (h1 : j < vs.length) (h2 : j < ws.length), EqAt A.in1 s vs[j] ws[j] (e j)) (hc : ∀ j (h1 : j < vs.length) (h2 : j < ws.length), e j = false → LtAt A.in1 s vs[j] ws[j] (c j)) :
    LtAt A s (.ref l) (.ref b) (lexB e c vs.length ws.length (min vs.length ws.length) 0) := fun prog w E Q h => by
  obtain ⟨n, ho⟩ := hl
  obtain ⟨n2, ho2⟩ := hb
  refine richCompare_meets_room (op := .Lt) ⟨_, ho, rfl⟩ ⟨_, ho2, rfl⟩ F.slot_list_lt F.entry_list_lt (F.args_list_lt_2 _ _) (list_lt l b vs.toArray ws.toArray n n2 e c)
    ⟨ho, ho2, fun j h1 h2 => he j (by simpa using h1) (by simpa using h2), fun j h1 h2 => hc j (by simpa using h1) (by simpa using h2), ?_⟩ hu
  exact ⟨(fun x => nomatch x), by simpa using h⟩
theorem LtAt.int {A : Around} {s : Shared} (a b : Int) (t u : Tok) : LtAt A s (.int a t) (.int b u) (decide (a < b)) := fun prog w E Q h =>
  CmpOf.ints_lt (P := fun i v => if i = 0 then v = .int a t else v = .int b u) (fun i => if i = 0 then a else b) (fun i v hv => by
    by_cases hi : i = 0
    · simp only [hi, if_true] at hv ⊢; exact ⟨t, hv⟩
    · simp only [hi, if_false] at hv ⊢; exact ⟨u, hv⟩) 0 1 _ _ s Q E rfl rfl (by simpa using h)
theorem LtAt.str {A : Around} {s : Shared} (a b : Str) (t u : Tok) : LtAt A s (.str a t) (.str b u) (decide (a.cps.toList < b.cps.toList)) := fun prog w E Q h =>
  richCompare_gives (op := .Lt) (typeIs_str s a t) (typeIs_str s b u) PySem.F.slot_str_lt PySem.F.entry_str_lt (PySem.F.args_str_lt_2 _ _) (gives_str_lt a b t u) (fun e => nomatch e) h
end Mine
end

section
set_option maxRecDepth 100000
set_option autoImplicit false
set_option linter.unusedVariables false
set_option linter.unusedSimpArgs false
open PySem PySem.W PyProof.Rows
namespace Mine
section
variable {prog : Program} {w : World} {A : Around} {E : Value → Shared → Prop} {R : Result → Shared → Prop} {g : Heap} {I S l : Addr} {vs : List Value}

/-- the items of a list compare, wherever the ghost heap stands -/
def CmpG (g : Heap) (A : Around) (vs : List Value) (bt : Nat → Nat → Bool) : Prop := ∀ (i j : Nat) (vi vj : Value) (s : Shared), Kp g s.heap → vs[i]? = some vi → vs[j]? = some vj → LtAt A s vi vj (bt i j)

theorem min_loop (hh : A.handled = none) (bt : Nat → Nat → Bool) (hcmp : CmpG g A.in1 vs bt) (hl : LL g l vs) (hI : g.get? I = none) (hSg : g.get? S = none) (hSI : S ≠ I) :
    ∀ (k j : Nat) (s : Shared) (vb : Value) (c : Nat), vs.length - (j + 1) = k → j + 1 ≤ vs.length → s.heap.IsListIter I l (j + 1) → Kp g s.heap → vs[argBest bt j]? = some vb →
    s.heap.get? S = some { cls := .type "list", dict := none, data := .seq #[vb, vb] c, slots := #[] } →
    (∀ v h' tk, vs[argBest bt (vs.length - 1)]? = some v → (∀ b o, b ≠ I → b ≠ S → s.heap.get? b = some o → h'.get? b = some o) → R (.ok (.ret v)) { s with heap := h', toks := tk }) →
    codeAny (model prog w) A (.builtin "min.loop" ⟨[.ref I, .none, .ref S], []⟩) R s := by
  have hname : (toString "min" ++ toString ".loop" : String) = "min.loop" := by decide
  intro k
  induction k with
  | zero =>
    intro j s vb c hk hj hit kg hPb hS hR
    have hin : j + 1 = vs.length := by omega
    refine codeAny_builtin F.entry_min_loop ?_
    rw [Around.under_plainId F.plain_min_loop _]
    show wpAny _ A.in1 (seqItems? (.ref S) >>= _) _ _ s
    refine wpAny_bind (wpAny_seqItems hS rfl ?_)
    show wpAny _ A.in1 (tryCatch (pyNext (.ref I)) _ >>= _) _ _ s
    refine wpAny_bind (wpAny_tryCatch (wpAny_pyNext_list_end (A := A.in1) hh hit (hl.mono kg).isList (by simp; omega) fun h' hs => ?_))
    have hS' := hs S _ hSI hS
    show wpAny _ A.in1 (updateSeq S (fun _ => #[]) >>= _) _ _ _
    refine wpAny_bind ?_
    refine wpAny_updateSeq hS' rfl (wpAny_bind (wpAny_letGo (wpAny_pure ?_)))
    refine hR vb _ s.toks (by rw [← hin]; exact hPb) fun b o hbI hbS e => (Heap.get?_update_other _ _ (Ne.symm hbS)).trans (hs b o hbI e)
  | succ k ih =>
    intro j s vb c hk hj hit kg hPb hS hR
    have hlt : j + 1 < vs.length := by omega
    refine codeAny_builtin F.entry_min_loop ?_
    rw [Around.under_plainId F.plain_min_loop _]
    show wpAny _ A.in1 (seqItems? (.ref S) >>= _) _ _ s
    refine wpAny_bind (wpAny_seqItems hS rfl ?_)
    show wpAny _ A.in1 (tryCatch (pyNext (.ref I)) _ >>= _) _ _ s
    refine wpAny_bind (wpAny_tryCatch (wpAny_pyNext_list_item (x := vs[j + 1]) hit (hl.mono kg).isList (by simp [hlt]) fun h' hit' hs => ?_))
    have hS' := hs.extBut S _ hSI hS
    have kg' : Kp g h' := fun b o e => hs.extBut b o (fun q => by rw [q, hI] at e; cases e) (kg _ _ e)
    show wpAny _ A.in1 (tryCatch (holding [vs[j + 1], vs[j + 1]] (richCompare .Lt vs[j + 1] vb >>= _)) _ >>= _) _ _ _
    refine wpAny_bind (wpAny_tryCatch (wpAny_holding (wpAny_bind (hcmp (j + 1) (argBest bt j) vs[j + 1] vb { s with heap := h' } kg' (by simp [hlt]) hPb prog w _ _ ?_))))
    refine wpAny_bind (wpAny_holding (wpAny_truthy_bool ?_))
    refine wpAny_bind (wpAny_letGo (wpAny_pure ?_))
    cases hb : bt (j + 1) (argBest bt j) with
    | true =>
      simp only [if_true]
      refine wpAny_bind ?_
      refine wpAny_updateSeq hS' rfl (wpAny_bind (wpAny_letGo ?_))
      rw [hname]
      have it2 : (h'.update S (Obj.mapSeq fun _ => #[vs[j + 1], vs[j + 1]])).IsListIter I l (j + 1 + 1) := by
        obtain ⟨oi, e1, e2⟩ := hit'
        exact ⟨oi, (Heap.get?_update_other _ _ hSI).trans e1, e2⟩
      refine wpAny_pure ⟨plainId_quiet F.plain_min_loop _, ih (j + 1) _ vs[j + 1] _ (by omega) hlt it2 (fun b o e => ?_) (by simp only [argBest, hb, if_true]; simp [hlt]) (Heap.get?_update_self _ hS' rfl)
        fun v' h'' tk'' hP' hk'' => ?_⟩
      · exact (Heap.get?_update_other _ _ (fun h : S = b => by rw [← h, hSg] at e; cases e)).trans (kg' _ _ e)
      · exact hR v' h'' tk'' hP' fun b o hbw hbS e => hk'' b o hbw hbS ((Heap.get?_update_other _ _ (Ne.symm hbS)).trans (hs.extBut b o hbw e))
    | false =>
      simp only [Bool.false_eq_true, if_false]
      refine wpAny_bind (wpAny_letGo ?_)
      rw [hname]
      refine wpAny_pure ⟨plainId_quiet F.plain_min_loop _, ih (j + 1) _ vb c (by omega) hlt hit' kg' (by simp only [argBest, hb, Bool.false_eq_true, if_false]; exact hPb) hS' fun v' h'' tk'' hP' hk'' => ?_⟩
      exact hR v' h'' tk'' hP' fun b o hbw hbS e => hk'' b o hbw hbS (hs.extBut b o hbw e)

theorem min_G {s : Shared} {Q : Value → Shared → Prop} (hh : A.handled = none) (bt : Nat → Nat → Bool) (k : Kp g s.heap) (hl : LL g l vs) (hcmp : CmpG g A.in1 vs bt) (hn : 0 < vs.length)
    (h : ∀ v s', vs[argBest bt (vs.length - 1)]? = some v → Grow g s g s' → Q v s') : wpAny (model prog w) A (call (.builtin "min") [.ref l]) Q E s := by
  have hname : (toString "min" ++ toString ".loop" : String) = "min.loop" := by decide
  refine call_function_tree F.kind_min F.plain_min F.entry_min (F.args_min1 _) ?_
  show wpAny _ A.in1 (Builtin.Builtins.bindParams "min" ["key", "default"] 0 ⟨[], []⟩ >>= _) _ _ s
  refine wpAny_bind (wpAny_of_eq (show Builtin.Builtins.bindParams "min" ["key", "default"] 0 ⟨[], []⟩ = pure [none, none] from rfl) ?_)
  refine wpAny_bind (wpAny_pure ?_)
  refine wpAny_bind (wpAny_pyIter_list (hl.mono k).isList ?_)
  refine wpAny_bind (wpAny_newObj_type ?_)
  rw [hname]
  have none_of : ∀ h : Heap, Kp h s.heap → ∀ a, s.heap.objs.size ≤ a → h.get? a = none := fun h k a ha => by
    cases q : h.get? a with
    | none => rfl
    | some o => exact absurd (Heap.lt_size (k _ _ q)) (Nat.not_lt.mpr ha)
  refine wpAny_pure ⟨plainId_quiet F.plain_min_loop _, ?_⟩
  have hsz : (s.heap.push { cls := .type "list_iterator", data := .fields #[.ref l, .int 0 0] }).objs.size = s.heap.objs.size + 1 := Heap.size_push ..
  have hSI : (s.heap.push { cls := .type "list_iterator", data := .fields #[.ref l, .int 0 0] }).objs.size ≠ s.heap.objs.size := by rw [hsz]; exact Nat.succ_ne_self _
  have hSn : g.get? (s.heap.push { cls := .type "list_iterator", data := .fields #[.ref l, .int 0 0] }).objs.size = none := none_of g k _ (by rw [hsz]; exact Nat.le_succ _)
  have hIn : g.get? s.heap.objs.size = none := none_of g k _ (Nat.le_refl _)
  have hS0 := Heap.get?_push_size (s.heap.push { cls := .type "list_iterator", data := .fields #[.ref l, .int 0 0] }) (o := { cls := .type "list", data := .seq ([] : List Value).toArray }) rfl
  generalize hSe : (s.heap.push { cls := .type "list_iterator", data := .fields #[.ref l, .int 0 0] }).objs.size = S at hSI hSn hS0
  have it0 : ((s.heap.push { cls := .type "list_iterator", data := .fields #[.ref l, .int 0 0] }).push { cls := .type "list", data := .seq ([] : List Value).toArray }).IsListIter s.heap.objs.size l 0 :=
    ⟨_, Heap.get?_push_of_some _ (Heap.get?_push_size _ rfl), rfl, rfl⟩
  have keep : ∀ b o, s.heap.get? b = some o → ((s.heap.push { cls := .type "list_iterator", data := .fields #[.ref l, .int 0 0] }).push { cls := .type "list", data := .seq ([] : List Value).toArray }).get? b = some o := fun b o e => Heap.get?_push_of_some _ (Heap.get?_push_of_some _ e)
  have ne : ∀ b o, s.heap.get? b = some o → b ≠ s.heap.objs.size ∧ b ≠ S := fun b o e => by
    have := Heap.lt_size e
    rw [← hSe, hsz]
    exact ⟨Nat.ne_of_lt this, Nat.ne_of_lt (Nat.lt_succ_of_lt this)⟩
  generalize hH : (s.heap.push { cls := .type "list_iterator", data := .fields #[.ref l, .int 0 0] }).push { cls := .type "list", data := .seq ([] : List Value).toArray } = H at hS0 it0 keep
  have kH : Kp g H := fun b o e => keep b o (k _ _ e)
  refine codeAny_builtin F.entry_min_loop ?_
  rw [Around.under_plainId F.plain_min_loop _]
  show wpAny _ A.in1 (seqItems? (.ref S) >>= _) _ _ _
  refine wpAny_bind (wpAny_seqItems hS0 rfl ?_)
  show wpAny _ A.in1 (tryCatch (pyNext (.ref s.heap.objs.size)) _ >>= _) _ _ _
  refine wpAny_bind (wpAny_tryCatch (wpAny_pyNext_list_item (x := vs[0]) it0 (hl.mono kH).isList (by simp [hn]) fun h' hit' hs => ?_))
  have hS' := hs.extBut S _ hSI hS0
  have kg' : Kp g h' := fun b o e => hs.extBut b o (fun q => by rw [q, hIn] at e; cases e) (kH _ _ e)
  show wpAny _ A.in1 (updateSeq S (fun _ => #[vs[0], vs[0]]) >>= _) _ _ _
  refine wpAny_bind ?_
  refine wpAny_updateSeq hS' rfl ?_
  rw [hname]
  have it2 : (h'.update S (Obj.mapSeq fun _ => #[vs[0], vs[0]])).IsListIter s.heap.objs.size l (0 + 1) := by
    obtain ⟨oi, e1, e2⟩ := hit'
    exact ⟨oi, (Heap.get?_update_other _ _ hSI).trans e1, e2⟩
  have kg2 : Kp g (h'.update S (Obj.mapSeq fun _ => #[vs[0], vs[0]])) := fun b o e => (Heap.get?_update_other _ _ (fun h : S = b => by rw [← h, hSn] at e; cases e)).trans (kg' _ _ e)
  refine wpAny_pure ⟨plainId_quiet F.plain_min_loop _, min_loop hh bt hcmp hl hIn hSn hSI _ 0 _ vs[0] _ rfl hn it2 kg2 (by simp [argBest, hn]) (Heap.get?_update_self _ hS' rfl) fun v h'' tk'' hP' hk'' => ?_⟩
  have kp : Kp s.heap h'' := fun b o e => by
    obtain ⟨n1, n2⟩ := ne b o e
    exact hk'' b o n1 n2 ((Heap.get?_update_other _ _ (Ne.symm n2)).trans (hs.extBut b o n1 (keep b o e)))
  exact h v _ hP' ⟨⟨_, _, rfl⟩, kp, Kp.refl _, k.trans kp, fun _ _ e => e⟩
end
end Mine
end

section
set_option maxRecDepth 100000
set_option autoImplicit false
set_option linter.unusedVariables false
set_option linter.unusedSimpArgs false
open PySem PySem.W PyProof.Rows
namespace Mine
open PySem.SeqAt

theorem eqvAll_ag : ∀ xs ys : List Ag, PyData.eqvAll (xs.map fun x => .str (nm x)) (ys.map fun x => .str (nm x)) = decide (xs = ys)
  | [], [] => rfl
  | [], _ :: _ => rfl
  | _ :: _, [] => rfl
  | x :: xs, y :: ys => by
    simp only [List.map_cons, PyData.eqvAll, PyData.eqv, eqvAll_ag xs ys, nm_eq]
    by_cases h : x = y <;> by_cases h2 : xs = ys <;> simp [h, h2]
theorem eqv_ag (xs ys : List Ag) : PyData.eqv (agD xs) (agD ys) = decide (xs = ys) := by
  simp only [agD, PyData.eqv]; exact eqvAll_ag xs ys
theorem strOk_nm : ∀ x : Ag, PyData.strOk (nm x) = true := by decide +kernel
theorem canLay_strs : ∀ xs : List Ag, PyData.canLayAll0 (xs.map fun x => .str (nm x)) = true
  | [] => rfl
  | x :: xs => by simp only [List.map_cons, PyData.canLayAll0, PyData.canLay0, canLay_strs xs, strOk_nm, Bool.and_self]
theorem depth_strs : ∀ xs : List Ag, PyData.depthAll (xs.map fun x => .str (nm x)) = 0
  | [] => rfl
  | x :: xs => by simp only [List.map_cons, PyData.depthAll, PyData.depth, depth_strs xs, Nat.max_self]
theorem canLay_ag (xs : List Ag) : PyData.canLay0 (agD xs) = true := by simp only [agD, PyData.canLay0]; exact canLay_strs xs
theorem depth_ag (xs : List Ag) : PyData.depth (agD xs) = 1 := by simp only [agD, PyData.depth, depth_strs]
theorem shaped_ag (xs : List Ag) : shaped (agD xs) = true := by unfold shaped; rw [canLay_ag, depth_ag]; decide
def intD (ns : List Nat) : PyData := .list (ns.map fun (n : Nat) => .int n)
theorem eqvAll_int : ∀ xs ys : List Nat, PyData.eqvAll (xs.map fun (n : Nat) => .int n) (ys.map fun (n : Nat) => .int n) = decide (xs = ys)
  | [], [] => rfl
  | [], _ :: _ => rfl
  | _ :: _, [] => rfl
  | x :: xs, y :: ys => by
    simp only [List.map_cons, PyData.eqvAll, PyData.eqv, eqvAll_int xs ys]
    by_cases h : x = y
    · by_cases h2 : xs = ys <;> simp [h, h2]
    · have : ((x : Int) == (y : Int)) = false := beq_eq_false_iff_ne.mpr fun q => h (by omega)
      simp [h, this]
theorem eqv_int (xs ys : List Nat) : PyData.eqv (intD xs) (intD ys) = decide (xs = ys) := by simp only [intD, PyData.eqv]; exact eqvAll_int xs ys
theorem canLay_ints : ∀ xs : List Nat, PyData.canLayAll0 (xs.map fun (n : Nat) => .int n) = true
  | [] => rfl
  | x :: xs => by simp only [List.map_cons, PyData.canLayAll0, PyData.canLay0, canLay_ints xs, Bool.and_self]
theorem depth_ints : ∀ xs : List Nat, PyData.depthAll (xs.map fun (n : Nat) => .int n) = 0
  | [] => rfl
  | x :: xs => by simp only [List.map_cons, PyData.depthAll, PyData.depth, depth_ints xs, Nat.max_self]
theorem canLay_int (xs : List Nat) : PyData.canLay0 (intD xs) = true := by simp only [intD, PyData.canLay0]; exact canLay_ints xs
theorem depth_int (xs : List Nat) : PyData.depth (intD xs) = 1 := by simp only [intD, PyData.depth, depth_ints]

/-- a list of small ints -/
abbrev iv (p : Nat × Tok) : Value := .int p.1 p.2
def LI (g : Heap) (a : Addr) (ns : List Nat) : Prop := ∃ ps : List (Nat × Tok), ps.map (·.1) = ns ∧ LL g a (ps.map iv)
theorem LI.mono {g g' : Heap} {a : Addr} {xs : List Nat} (h : LI g a xs) (k : Kp g g') : LI g' a xs := let ⟨ps, e, l⟩ := h; ⟨ps, e, l.mono k⟩
theorem reads_ints (h : Heap) : ∀ ps : List (Nat × Tok), ReadsAll h (ps.map iv) ((ps.map (·.1)).map fun (n : Nat) => .int n) []
  | [] => .nil
  | p :: r => .cons (.int _ _) (reads_ints h r)
theorem LI.reads {g : Heap} {a : Addr} {xs : List Nat} (h : LI g a xs) : Reads g (.ref a) (intD xs) [a] := by
  obtain ⟨ps, rfl, n, e⟩ := h
  exact .list e rfl rfl (by simpa using reads_ints g ps)

/-! left to right -/
def lexW {α : Type} [DecidableEq α] (lt : α → α → Bool) : List α → List α → Bool
  | [], [] => false
  | [], _ :: _ => true
  | _ :: _, [] => false
  | a :: as, b :: bs => if a = b then lexW lt as bs else lt a b
theorem lexB_shift (e c : Nat → Bool) (n1 n2 : Nat) : ∀ k i, lexB e c (n1 + 1) (n2 + 1) k (i + 1) = lexB (fun j => e (j + 1)) (fun j => c (j + 1)) n1 n2 k i
  | 0, i => by simp [lexB]
  | k + 1, i => by simp only [lexB, lexB_shift e c n1 n2 k (i + 1)]
theorem lexB_congr {e c e' c' : Nat → Bool} {n1 n2 : Nat} : ∀ k i, (∀ j, i ≤ j → j < i + k → e j = e' j ∧ c j = c' j) → lexB e c n1 n2 k i = lexB e' c' n1 n2 k i
  | 0, i, _ => rfl
  | k + 1, i, h => by
    simp only [lexB]
    rw [(h i (Nat.le_refl _) (by omega)).1, (h i (Nat.le_refl _) (by omega)).2, lexB_congr k (i + 1) fun j h1 h2 => h j (by omega) (by omega)]
theorem lexB_lexW {α : Type} [DecidableEq α] (lt : α → α → Bool) : ∀ (xs ys : List α) (e c : Nat → Bool), (∀ j x y, xs[j]? = some x → ys[j]? = some y → e j = decide (x = y) ∧ c j = lt x y) →
    lexB e c xs.length ys.length (min xs.length ys.length) 0 = lexW lt xs ys
  | [], [], _, _, _ => rfl
  | [], _ :: _, _, _, _ => by simp [lexB, lexW]
  | _ :: _, [], _, _, _ => by simp [lexB, lexW]
  | x :: xs, y :: ys, e, c, h => by
    obtain ⟨h1, h2⟩ := h 0 x y rfl rfl
    have ih := lexB_lexW lt xs ys (fun j => e (j + 1)) (fun j => c (j + 1)) fun j a b ha hb => h (j + 1) a b (by simpa using ha) (by simpa using hb)
    simp only [List.length_cons, lexW]
    rw [show min (xs.length + 1) (ys.length + 1) = min xs.length ys.length + 1 by omega]
    simp only [lexB]
    rw [lexB_shift, ih, h1, h2]
    by_cases hxy : x = y <;> simp [hxy]

theorem LtAt.ints {A : Around} {s : Shared} {a b : Addr} {xs ys : List Nat} (ha : LI s.heap a xs) (hb : LI s.heap b ys) (hu : A.units < cLine) : LtAt A s (.ref a) (.ref b) (lexW (fun x y => decide (x < y)) xs ys) := by
  obtain ⟨ps, rfl, ha⟩ := ha
  obtain ⟨qs, rfl, hb⟩ := hb
  have := LtAt.lists (e := fun j => decide ((ps.map (·.1))[j]? = (qs.map (·.1))[j]?)) (c := fun j => decide ((ps.map (·.1)).getD j 0 < (qs.map (·.1)).getD j 0)) ha hb hu (fun j h1 h2 => ?_) (fun j h1 h2 _ => ?_)
  · rw [← lexB_lexW (fun x y => decide (x < y)) (ps.map (·.1)) (qs.map (·.1)) (fun j => decide ((ps.map (·.1))[j]? = (qs.map (·.1))[j]?)) (fun j => decide ((ps.map (·.1)).getD j 0 < (qs.map (·.1)).getD j 0)) fun j x y h1 h2 => ?_]
    · simpa using this
    · rw [List.getD_eq_getElem?_getD, List.getD_eq_getElem?_getD, h1, h2]; simp
  · have e1 : j < ps.length := by simpa using h1
    have e2 : j < qs.length := by simpa using h2
    have := EqAt.int_int (A := A.in1) (s := s) (ps[j].1 : Int) ps[j].2 (qs[j].1 : Int) qs[j].2
    have e : (((ps[j].1 : Int)) == (qs[j].1 : Int)) = decide ((ps.map (·.1))[j]? = (qs.map (·.1))[j]?) := by
      simp only [List.getElem?_map, List.getElem?_eq_getElem e1, List.getElem?_eq_getElem e2, Option.map_some, Option.some.injEq]
      by_cases h : ps[j].1 = qs[j].1
      · simp [h]
      · have : (((ps[j].1 : Int)) == (qs[j].1 : Int)) = false := beq_eq_false_iff_ne.mpr fun q => h (by omega)
        rw [this]; simp [h]
    rw [e] at this
    simpa using this
  · have e1 : j < ps.length := by simpa using h1
    have e2 : j < qs.length := by simpa using h2
    have := LtAt.int (A := A.in1) (s := s) (ps[j].1 : Int) (qs[j].1 : Int) ps[j].2 qs[j].2
    have e : decide ((ps[j].1 : Int) < (qs[j].1 : Int)) = decide ((ps.map (·.1)).getD j 0 < (qs.map (·.1)).getD j 0) := by
      rw [List.getD_eq_getElem?_getD, List.getD_eq_getElem?_getD]
      simp only [List.getElem?_map, List.getElem?_eq_getElem e1, List.getElem?_eq_getElem e2, Option.map_some, Option.getD_some]
      apply decide_eq_decide.mpr; omega
    rw [e] at this
    simpa using this
def agLt (x y : Ag) : Bool := decide ((nm x).cps.toList < (nm y).cps.toList)
theorem LtAt.ags {A : Around} {s : Shared} {a b : Addr} {xs ys : List Ag} (ha : LS s.heap a xs) (hb : LS s.heap b ys) (hu : A.units < cLine) : LtAt A s (.ref a) (.ref b) (lexW agLt xs ys) := by
  obtain ⟨ps, rfl, ha⟩ := ha
  obtain ⟨qs, rfl, hb⟩ := hb
  have := LtAt.lists (e := fun j => decide ((ps.map (·.1))[j]? = (qs.map (·.1))[j]?)) (c := fun j => agLt ((ps.map (·.1)).getD j 0) ((qs.map (·.1)).getD j 0)) ha hb hu (fun j h1 h2 => ?_) (fun j h1 h2 _ => ?_)
  · rw [← lexB_lexW agLt (ps.map (·.1)) (qs.map (·.1)) (fun j => decide ((ps.map (·.1))[j]? = (qs.map (·.1))[j]?)) (fun j => agLt ((ps.map (·.1)).getD j 0) ((qs.map (·.1)).getD j 0)) fun j x y h1 h2 => ?_]
    · simpa using this
    · rw [List.getD_eq_getElem?_getD, List.getD_eq_getElem?_getD, h1, h2]; simp
  · have e1 : j < ps.length := by simpa using h1
    have e2 : j < qs.length := by simpa using h2
    have := EqAt.str_str (A := A.in1) (s := s) (nm ps[j].1) ps[j].2 (nm qs[j].1) qs[j].2
    rw [nm_eq] at this
    have e : decide (ps[j].1 = qs[j].1) = decide ((ps.map (·.1))[j]? = (qs.map (·.1))[j]?) := by
      simp only [List.getElem?_map, List.getElem?_eq_getElem e1, List.getElem?_eq_getElem e2, Option.map_some, Option.some.injEq]
    rw [e] at this
    simpa using this
  · have e1 : j < ps.length := by simpa using h1
    have e2 : j < qs.length := by simpa using h2
    have := LtAt.str (A := A.in1) (s := s) (nm ps[j].1) (nm qs[j].1) ps[j].2 qs[j].2
    have e : decide ((nm ps[j].1).cps.toList < (nm qs[j].1).cps.toList) = agLt ((ps.map (·.1)).getD j 0) ((qs.map (·.1)).getD j 0) := by
      rw [List.getD_eq_getElem?_getD, List.getD_eq_getElem?_getD]
      simp only [List.getElem?_map, List.getElem?_eq_getElem e1, List.getElem?_eq_getElem e2, Option.map_some, Option.getD_some]
      rfl
    rw [e] at this
    simpa using this

/-- a rank: where its agents begin, and the agents -/
def rkLt (p q : List Nat × List Ag) : Bool := if p.1 = q.1 then (if p.2 = q.2 then false else lexW agLt p.2 q.2) else lexW (fun x y => decide (x < y)) p.1 q.1
def RK (g : Heap) (a : Addr) (p : List Nat × List Ag) : Prop := ∃ b c, LL g a [.ref b, .ref c] ∧ LI g b p.1 ∧ LS g c p.2
theorem RK.mono {g g' : Heap} {a : Addr} {p : List Nat × List Ag} (h : RK g a p) (k : Kp g g') : RK g' a p := let ⟨b, c, h1, h2, h3⟩ := h; ⟨b, c, h1.mono k, h2.mono k, h3.mono k⟩
theorem LtAt.ranks {A : Around} {s : Shared} {a b : Addr} {p q : List Nat × List Ag} (ha : RK s.heap a p) (hb : RK s.heap b q) (hu : A.units + 8 < cLine) : LtAt A s (.ref a) (.ref b) (rkLt p q) := by
  obtain ⟨a1, a2, ha, hi, hs⟩ := ha
  obtain ⟨b1, b2, hb, hi2, hs2⟩ := hb
  have u1 : A.in1.units + 2 < cLine := by show A.units + 1 + 2 < cLine; omega
  have := LtAt.lists (A := A) (e := fun j => if j = 0 then decide (p.1 = q.1) else decide (p.2 = q.2)) (c := fun j => if j = 0 then lexW (fun x y => decide (x < y)) p.1 q.1 else lexW agLt p.2 q.2) ha hb (by omega) (fun j h1 h2 => ?_) (fun j h1 h2 _ => ?_)
  · have e : lexB (fun j => if j = 0 then decide (p.1 = q.1) else decide (p.2 = q.2)) (fun j => if j = 0 then lexW (fun x y => decide (x < y)) p.1 q.1 else lexW agLt p.2 q.2) [Value.ref a1, .ref a2].length [Value.ref b1, .ref b2].length (min [Value.ref a1, .ref a2].length [Value.ref b1, .ref b2].length) 0 = rkLt p q := by
      simp [lexB, rkLt]
    rw [e] at this
    exact this
  · match j, h1, h2 with
    | 0, _, _ =>
      have := eqAt_reads _ _ A.in1 s _ _ _ _ hi.reads hi2.reads (canLay_int _) (canLay_int _) (by rw [depth_int, depth_int]; show A.in1.units + 1 < cLine; omega)
      rw [eqv_int] at this
      exact this
    | 1, _, _ =>
      have := eqAt_reads _ _ A.in1 s _ _ _ _ hs.reads hs2.reads (canLay_ag _) (canLay_ag _) (by rw [depth_ag, depth_ag]; show A.in1.units + 1 < cLine; omega)
      rw [eqv_ag] at this
      exact this
  · match j, h1, h2 with
    | 0, _, _ => exact LtAt.ints hi hi2 (by omega)
    | 1, _, _ => exact LtAt.ags hs hs2 (by omega)
end Mine
end

section
set_option maxRecDepth 100000
set_option autoImplicit false
set_option linter.unusedVariables false
set_option linter.unusedSimpArgs false
open PySem PySem.W PyProof.Rows
namespace Mine
open PySem.SeqAt
local macro_rules | `(tactic| walk_at "body") => `(tactic| (unfold bodyAt; conv => (arg 3; arg 1; whnf)))
local macro_rules | `(tactic| walk_at "bind") => `(tactic| (refine BindsTo.of_eq ?_; unfold fdAt; (conv => lhs; arg 1; whnf); rfl))

def rowsOf (xss : List (List Ag)) (a : Ag) (k : Nat) : List Nat := (List.range k).filter fun i => (xss.getD i []).contains a
/-- the first row that has an agent; 3 if none -/
def fst3 (xss : List (List Ag)) (a : Ag) : Nat := (rowsOf xss a 3 ++ [3]).headD 3
def rkOf (xss : List (List Ag)) (o : List Ag) : List Nat × List Ag := (o.map (fst3 xss), o)
def btOf (xss ords : List (List Ag)) (i j : Nat) : Bool := rkLt (rkOf xss (ords.getD i [])) (rkOf xss (ords.getD j []))
def least (xss ords : List (List Ag)) : Option (List Ag) :=
  if ords.isEmpty then none else some ((ords.getD (argBest (btOf xss ords) (ords.length - 1)) []).filter fun a => decide (fst3 xss a < 3))

/-- the entries of the table of first rows -/
def fkv (xss : List (List Ag)) (ts : List (Ag × Tok)) : List (Str × Value) := ts.map fun p => (nm p.1, .int (fst3 xss p.1) p.2)
theorem fkv_any {xss : List (List Ag)} {ts : List (Ag × Tok)} {a : Ag} (h : a ∉ ts.map (·.1)) : ((fkv xss ts).any fun kv => decide (kv.1 = nm a)) = false := by
  rw [List.any_eq_false]
  intro kv hkv
  obtain ⟨p, hp, rfl⟩ := List.mem_map.mp hkv
  have : nm p.1 ≠ nm a := fun q => h (nm_inj q ▸ List.mem_map_of_mem hp)
  simpa using this
theorem fkv_at {xss : List (List Ag)} {ts : List (Ag × Tok)} {a : Ag} (h : a ∈ ts.map (·.1)) : ∃ t, valueAt (fkv xss ts) (nm a) = some (.int (fst3 xss a) t) := by
  unfold valueAt
  cases hf : (fkv xss ts).find? fun kv => decide (kv.1 = nm a) with
  | none =>
    rw [List.find?_eq_none] at hf
    obtain ⟨p, hp, rfl⟩ := List.mem_map.mp h
    exact absurd (by simp) (hf _ (List.mem_map_of_mem (f := fun p : Ag × Tok => (nm p.1, Value.int (fst3 xss p.1) p.2)) hp))
  | some kv =>
    have h1 := List.find?_some hf
    obtain ⟨p, hp, rfl⟩ := List.mem_map.mp (List.mem_of_find?_eq_some hf)
    have : p.1 = a := nm_inj (by simpa using h1)
    exact ⟨p.2, by rw [← this]; rfl⟩

theorem Src.imp {prog : Program} {w : World} {A : Around} {g : Heap} {s : Shared} {xv : Value} {n n' : Nat} {P P' : Nat → Value → Prop} (h : Src prog w A g s xv n P) (hn : n = n') (k : ∀ i v, P i v → P' i v) : Src prog w A g s xv n' P' := by
  subst hn
  obtain ⟨Ob, o, hf, W, ho, hi⟩ := h
  exact ⟨Ob, o, hf, fun I => ⟨fun k' o s Q E hk hO hg he hQ => (W I).item k' o s Q E hk hO hg he fun v o' h' tk hv => hQ v o' h' tk (k _ _ hv), (W I).done, (W I).self⟩, ho, hi⟩

/-- a list of records -/
def LE (g : Heap) (a : Addr) (yss : List (List Ag)) : Prop := ∃ es : List Addr, LL g a (es.map Value.ref) ∧ Pw (IsEnt g) es yss
theorem LE.mono {g g' : Heap} {a : Addr} {xss : List (List Ag)} (h : LE g a xss) (k : Kp g g') : LE g' a xss := let ⟨as, l, p⟩ := h; ⟨as, l.mono k, p.mono fun _ _ h => h.mono k⟩

section
variable {prog : Program} {w : World} {A : Around} {E : Value → Shared → Prop} {g₀ g : Heap} {s₀ s : Shared} {env : Env} {ro : List Str} {m : Str → Option Value} {own : List (Addr × Obj)}

theorem dictItem {value slice : Expr} {d : Addr} {o : Obj} {kvs : List (Str × Value)} {x : Str} {t : Tok} {v : Value} {Q : Value → Shared → Prop} (F : FS g₀ s₀ env ro m own g s) (ho : s.heap.get? d = some o) (hd : o.IsDictOf (strKind prog w) kvs) (hv : valueAt kvs x = some v)
    (h : ∀ s', FS g₀ s₀ env ro m own g s' → s'.heap = s.heap → Q v s') (hs : subscripted slice false (.ref d) (.str x t) = operate [.ref d, .str x t] (getItem (.ref d) (.str x t)) := by with_unfolding_all rfl) :
    wpAny (model prog w) A (subscriptTail value slice (.ref d) (.str x t)) Q E s := by
  have hm : s.heap.DictOf (strKind prog w) d kvs := Heap.dictOf_iff.mpr ⟨o, ho, hd⟩
  exact tail_any hm.typeIs slot_dict_getitem.lookup (wpAny_getItem_of (PySem.strKind_is prog w x t) hm.mapOf hv (h _ (F.tok _) rfl)) hs

set_option maxHeartbeats 2000000 in
theorem least_ok {Rw O : Addr} {xss ords : List (List Ag)} {Q : Value → Shared → Prop} (L : Ld w g) (k : Kp g s.heap) (rm : Rm 9 A) (hR : LR g Rw xss) (hO : LE g O ords) (h3 : xss.length = 3) (hz1 : ords.length ≤ 1000) (hz2 : ∀ x ∈ ords, x.length ≤ 1000) (hz3 : ∀ x ∈ xss, x.length ≤ 1000)
    (h : ∀ g' s' a, Grow g s g' s' → Told g' a (least xss ords) → Q (.ref a) s') : wpAny (model prog w) A (call (.ref 106) [.ref Rw, .ref O]) Q E s := by
  refine wpAny_call ?_
  refine call_at 106 (binds := [(Str.ofString "rows", .ref Rw), (Str.ofString "orders", .ref O)]) [] L k (fun _ h => nomatch h) List.nodup_nil rm.room rfl rfl rfl (by walk_at "bind") rfl rfl rfl rfl rfl fun s₁ F => ?_
  walk_at "body"
  have rm1 : Rm 8 (A.deeper (envAt w 106 s.heap.objs.size)) := rm.deeper
  obtain ⟨as, hA, hP⟩ := hR
  obtain ⟨es, hE, hPe⟩ := hO
  have hrow : ∀ i : Nat, i < 3 → ∃ (b : Addr) (ps : List (Ag × Tok)), as[i]? = some b ∧ LL g b (ps.map sv) ∧ ps.map (·.1) = xss.getD i [] := fun i hi => by
    have hx : xss[i]? = some (xss.getD i []) := by rw [List.getD_eq_getElem?_getD, List.getElem?_eq_getElem (by omega)]; rfl
    obtain ⟨b, hb, ps, hps, hl⟩ := hP.at' hx
    exact ⟨b, ps, hb, hl, hps⟩
  refine wpAny_execs_cons (wpAny_Assign_Name (wpAny_Dict_empty (stF (F.push { cls := .type "dict", data := .dict #[] }) rfl (.inr ⟨rfl, by simp⟩) fun s₂ F => ?_)) rfl)
  generalize hd0 : s₁.heap.objs.size = d at F
  have D0 : ({ cls := .type "dict", data := .dict #[] } : Obj).IsDictOf (strKind prog w) (fkv xss []) := by
    obtain ⟨o, ho, hd⟩ := Heap.dictOf_iff.mp (Heap.DictOf.new (knd := strKind prog w) s₁.heap)
    rw [Heap.get?_push_size _ rfl] at ho
    exact (Option.some.inj ho) ▸ hd
  -- for agent in [..]
  refine wpAny_execs_cons (wpAny_mono (Q := fun (f : Flow) s' => f = .next ∧ ∃ (m' : Str → Option Value) (g' : Heap) (o : Obj) (ts : List (Ag × Tok)), FS g (hideS [] s) (envAt w 106 s.heap.objs.size) [] m' [(d, o)] g' s' ∧ Kp g g' ∧ m' (Str.ofString "orders") = some (.ref O) ∧ m' (Str.ofString "firsts") = some (.ref d) ∧
      o.IsDictOf (strKind prog w) (fkv xss ts) ∧ ts.map (·.1) = [0, 1, 2, 3]) ?_ ?_ fun _ _ e => e)
  · refine for_stmtF F (n := 4) (P := fun k v => ∃ t, ([0, 1, 2, 3] : List Ag)[k]?.map (fun a => Value.str (nm a) t) = some v) (fun k m own g' => m (Str.ofString "rows") = some (.ref Rw) ∧ m (Str.ofString "orders") = some (.ref O) ∧ m (Str.ofString "firsts") = some (.ref d) ∧
      ∃ (o : Obj) (ts : List (Ag × Tok)), own = [(d, o)] ∧ o.IsDictOf (strKind prog w) (fkv xss ts) ∧ ts.map (·.1) = ([0, 1, 2, 3] : List Ag).take k) rfl (.inr ⟨rfl, by simp⟩) ?_
    refine List_ (spliced_more (cStr F fun t0 s3 F _ => spliced_more (cStr F fun t1 s4 F _ => spliced_more (cStr F fun t2 s5 F _ => spliced_more (cStr F fun t3 s6 F _ => spliced_none (newList_G F.kp fun g1 l s7 G hl => ?_))))))
    have F := F.on G
    have src := Src.list (prog := prog) (w := w) (A := A.deeper (envAt w 106 s.heap.objs.size)) rm1.hh F.kp hl
    refine ⟨g1, _, _, F, ?_, ⟨rfl, rfl, rfl, _, [], rfl, D0, rfl⟩, ?_, ?_⟩
    · obtain ⟨Ob, o, hf, W, ho, hi⟩ := src
      refine ⟨Ob, o, hf, fun I => ⟨fun k o s Q E hk hO hg he hQ => (W I).item k o s Q E hk hO hg he fun v o' h' tk hv => hQ v o' h' tk ?_, (W I).done, (W I).self⟩, ho, hi⟩
      match k, hk with
      | 0, _ => exact ⟨t0, hv⟩
      | 1, _ => exact ⟨t1, hv⟩
      | 2, _ => exact ⟨t2, hv⟩
      | 3, _ => exact ⟨t3, hv⟩
    · intro i v p m2 own2 g2 s8 E' hi hv kg hI F
      obtain ⟨i1, i2, i3, o, ts, rfl, hD, hts⟩ := hI
      obtain ⟨ta, hv⟩ := hv
      obtain ⟨a, ha⟩ : ∃ a : Ag, ([0, 1, 2, 3] : List Ag)[i]? = some a := by
        cases q : ([0, 1, 2, 3] : List Ag)[i]? with
        | none => rw [q] at hv; cases hv
        | some a => exact ⟨a, rfl⟩
      rw [ha] at hv
      have hv : Value.str (nm a) ta = v := Option.some.inj hv
      subst hv
      have hnew : a ∉ ts.map (·.1) := by
        rw [hts]
        have : ∀ i < 4, ∀ a : Ag, ([0, 1, 2, 3] : List Ag)[i]? = some a → a ∉ ([0, 1, 2, 3] : List Ag).take i := by decide
        exact this i hi a ha
      refine wpAny_execs_cons (wpAny_Assign_Subscript (Subscript_ (wpAny_BinOp ?_)) rfl)
      refine comp_evalF F (n := 3) (P := fun k v => ∃ t, v = .int (0 + k) t) (J := fun k ys _ => ∃ ps : List (Nat × Tok), ys = ps.map iv ∧ ps.map (·.1) = rowsOf xss a k) rfl rfl (by decide) rfl (fun C => .inl rfl) (fun _ _ _ _ h => h) ?_
      refine callT (L.mono ((G.gg.trans kg).trans F.kp)) rfl rfl rfl rfl rfl Boot.range (spliced_more (cInt F fun t4 s9 F _ => spliced_none (range1_F (n := 3) rm1.hh F (by decide) fun g3 r s10 F k3 src => ?_)))
      refine ⟨g3, F, src, by rw [sizeLine_eq]; decide, ⟨[], rfl, rfl⟩, fun C hC => ?_, fun D ys g4 s11 F k4 hDl hJ => ?_⟩
      · intro j v ys own g5 s12 E2 hj hPv kg5 hJ Fc
        obtain ⟨tj, rfl⟩ := hPv
        obtain ⟨b, ps, hb, hl2, hps⟩ := hrow j hj
        have kk : Kp g g5 := ((G.gg.trans kg).trans k3).trans kg5
        have e0 : ((0 : Int) + (j : Int)).toNat = j := by omega
        refine wpAny_tests_one (wpAny_isTrue_Compare1 (nmF Fc rfl (.inr rfl) rfl (Subscript_ (nmF Fc rfl (.inr rfl) i1 (nmF Fc rfl (.inl rfl) rfl (item_G ((hA.mono kk).mono Fc.kp) (by omega) (v := .ref b) (by rw [e0, List.getElem?_map, hb]; rfl) (in_G ((hl2.mono kk).mono Fc.kp) (wpAny_truthy_bool ?_)))))))) 
        obtain ⟨qs, rfl, hqs⟩ := hJ
        have key : rowsOf xss a (j + 1) = rowsOf xss a j ++ (if (xss.getD j []).contains a then [j] else []) := by
          unfold rowsOf
          rw [List.range_succ, List.filter_append]
          simp only [List.filter_cons, List.filter_nil]
        rw [hps]
        cases hc : (xss.getD j []).contains a with
        | true =>
          rw [if_pos rfl]
          refine nmF Fc rfl (.inl rfl) rfl ⟨g5, Fc, Kp.refl _, qs ++ [(j, tj)], ?_, ?_⟩
          · simp
          · rw [key, hc, List.map_append, hqs]; rfl
        | false =>
          rw [if_neg (by decide)]
          refine ⟨g5, Fc, Kp.refl _, qs, rfl, ?_⟩
          rw [key, hc, hqs]; simp
      obtain ⟨qs, rfl, hqs⟩ := hJ
      refine List_ (spliced_more (cInt F fun t5 s12 F _ => spliced_none (newList_G F.kp fun g5 c5 s13 G5 hc5 => ?_)))
      have F := F.on G5
      have hlen : qs.length ≤ 3 := by
        have := congrArg List.length hqs
        rw [List.length_map] at this
        rw [this]; exact Nat.le_trans (List.length_filter_le _ _) (by simp)
      refine add_G F.kp ((hDl.mono G5.gg).mono F.kp) (hc5.mono F.kp) (fun g6 c6 s14 G6 hc6 => ?_) (by rw [sizeLine_eq]; simp; omega)
      have F := F.on G6
      obtain ⟨tv, htv⟩ : ∃ tv, (qs.map iv ++ [Value.int 3 t5])[0]? = some (Value.int (fst3 xss a) tv) := by
        unfold fst3
        rw [← hqs]
        cases qs with
        | nil => exact ⟨t5, rfl⟩
        | cons q r => exact ⟨q.2, rfl⟩
      refine cInt F fun t6 s15 F e15 => item_G (hc6.mono (e15 ▸ F.kp)) (by decide) htv ?_
      refine nmF F rfl (.inr rfl) i3 (nmF F rfl (.inr rfl) rfl ?_)
      refine wpAny_setItem_pairs (PySem.strKind_is prog w (nm a) ta) (Heap.dictOf_iff.mpr ⟨o, F.ownGet (.tail _ (.head _)), hD⟩) (fun h' hm hs => wpAny_execs_nil ?_) ?_
      · obtain ⟨o', ho', hd'⟩ := Heap.dictOf_iff.mp hm
        have F := F.upd2 (tk := s15.toks + 1) hs.extBut ho'
        refine ⟨_, _, g6, F, (k3.trans k4).trans (G5.gg.trans G6.gg), i1, i2, i3, o', ts ++ [(a, tv)], rfl, ?_, ?_⟩
        · have e : stored (fkv xss ts) (nm a) (.int (fst3 xss a) tv) = fkv xss (ts ++ [(a, tv)]) := by
            unfold stored
            rw [fkv_any hnew, if_neg (by decide)]
            simp [fkv]
          rw [e] at hd'; exact hd'
        · rw [List.map_append, hts, List.take_add_one, ha]; rfl
      · have := congrArg List.length hts
        rw [List.length_map] at this
        rw [sizeLine_eq]; unfold fkv; rw [List.length_map, this]; simp; omega
    · intro m2 own2 g2 s8 E' kg hI F
      obtain ⟨i1, i2, i3, o, ts, rfl, hD, hts⟩ := hI
      exact wpAny_execs_nil ⟨rfl, m2, g2, o, ts, F, G.gg.trans kg, i2, i3, hD, hts⟩
  · rintro f s3 ⟨rfl, m3, g3, o, ts, F, kg, m1, m2, hD, hts⟩
    obtain ⟨g4, F, k4, ho⟩ := F.freeze
    have kg4 := kg.trans k4
    have hfi : ∀ a : Ag, ∃ t, valueAt (fkv xss ts) (nm a) = some (.int (fst3 xss a) t) := fun a => fkv_at (by
      rw [hts]
      have : ∀ a : Ag, a ∈ ([0, 1, 2, 3] : List Ag) := by decide
      exact this a)
    -- ranks = ..
    refine wpAny_execs_cons (comp_assignF F (n := (es.map Value.ref).length) (P := fun k v => (es.map Value.ref)[k]? = some v) (J := fun k ys g' => ∃ bs : List Addr, ys = bs.map Value.ref ∧ Pw (RK g') bs ((ords.take k).map (rkOf xss))) rfl rfl (by decide) rfl (fun C => .inl rfl)
      (fun ys g g' kg h => let ⟨bs, e, p⟩ := h; ⟨bs, e, p.mono fun _ _ h => h.mono kg⟩) rfl rfl (nmF F rfl (.inl rfl) m1 ?_))
    refine ⟨g4, F, Src.list rm1.hh F.kp (hE.mono kg4), by rw [sizeLine_eq, List.length_map, hPe.1]; omega, ⟨[], rfl, Pw.nil _⟩, fun C hC => ?_, fun D ys g5 s5 F k5 hDl hJ => ?_⟩
    · intro i v ys own g6 s6 E2 hi hPv kg6 hJ Fc
      rw [List.length_map] at hi
      rw [List.getElem?_map, List.getElem?_eq_getElem hi] at hPv
      have hPv : Value.ref es[i] = v := by simpa using hPv
      subst hPv
      obtain ⟨x, hx, dx, od, md, kd, l1, l2, q1, q2, q3, q4, ⟨ps, hps, q5⟩, q6⟩ := hPe.at (List.getElem?_eq_getElem hi)
      have hxz : x.length ≤ 1000 := hz2 x (List.mem_of_getElem? hx)
      have hpl : ps.length = x.length := by rw [← hps, List.length_map]
      have kk := kg4.trans kg6
      refine wpAny_tests_nil ?_
      rw [if_pos rfl]
      refine List_ (spliced_more ?_)
      refine comp_evalF Fc (n := (ps.map sv).length) (P := fun k v => (ps.map sv)[k]? = some v) (J := fun k ys g' => ∃ ns : List (Nat × Tok), ys = ns.map iv ∧ ns.map (·.1) = (x.take k).map (fst3 xss)) rfl rfl (by decide) rfl (fun C => .inl rfl) (fun _ _ _ _ h => h)
        (entAttr Fc (L.mono kk) rfl (.inl rfl) rfl (kk _ _ q1) (kk _ _ q2) q3 q4.ua fun s7 Fc _ => ?_)
      refine ⟨g6, Fc, Src.list rm1.hh Fc.kp (q5.mono kk), by rw [sizeLine_eq, List.length_map]; omega, ⟨[], rfl, rfl⟩, fun C2 hC2 => ?_, fun D2 ys2 g7 s8 Fc k7 hD2 hJ2 => ?_⟩
      · intro j v ys2 own2 g8 s9 E3 hj hPv kg8 hJ2 Fd
        rw [List.length_map] at hj
        rw [List.getElem?_map, List.getElem?_eq_getElem hj] at hPv
        have hPv : sv ps[j] = v := by simpa using hPv
        subst hPv
        obtain ⟨tv, htv⟩ := hfi ps[j].1
        refine wpAny_tests_nil ?_
        rw [if_pos rfl]
        refine Subscript_ (nmF Fd rfl (.inr rfl) m2 (nmF Fd rfl (.inl rfl) rfl (dictItem Fd (Fd.kp _ _ (kg8 _ _ (kg6 _ _ ho))) hD htv fun s10 Fd _ => ?_)))
        obtain ⟨ns, rfl, hns⟩ := hJ2
        refine ⟨g8, Fd, Kp.refl _, ns ++ [(fst3 xss ps[j].1, tv)], by simp, ?_⟩
        have hxj : x[j]? = some ps[j].1 := by rw [← hps, List.getElem?_map, List.getElem?_eq_getElem hj]; rfl
        rw [List.map_append, hns, List.take_add_one, hxj]; simp
      obtain ⟨ns, rfl, hns⟩ := hJ2
      have kk7 := kk.trans k7
      refine spliced_more (entAttr Fc (L.mono kk7) rfl (.inl rfl) rfl (kk7 _ _ q1) (kk7 _ _ q2) q3 q4.ua fun s9 Fc _ => spliced_none (newList_G Fc.kp fun g8 c8 s10 G8 hc8 => ?_))
      have Fc := Fc.on G8
      obtain ⟨bs, rfl, hbs⟩ := hJ
      refine ⟨g8, Fc, k7.trans G8.gg, bs ++ [c8], by simp, ?_⟩
      rw [List.take_add_one, hx, List.map_append]
      refine (hbs.mono fun _ _ h => h.mono (k7.trans G8.gg)).snoc ⟨D2, l1, hc8, ⟨ns, ?_, hD2.mono G8.gg⟩, ⟨ps, hps, (q5.mono kk7).mono G8.gg⟩⟩
      rw [hns]
      show (x.take _).map _ = x.map (fst3 xss)
      rw [List.length_map, hpl, List.take_length]
    obtain ⟨bs, rfl, hbs⟩ := hJ
    rw [List.length_map, hPe.1, List.take_length] at hbs
    have hbl : bs.length = ords.length := by rw [hbs.1, List.length_map]
    -- if ranks == []
    refine wpAny_execs_cons (wpAny_If (wpAny_isTrue_Compare1 (nmF F rfl (.inl rfl) rfl (List_ (spliced_none (newList_G F.kp fun g6 c6 s6 G6 hc6 => ?_))))))
    have F := F.on G6
    cases hoe : ords with
    | nil =>
      have hb0 : bs = [] := by rw [hoe] at hbl; exact List.length_eq_zero_iff.mp hbl
      refine RcAt.lists (e := fun _ => true) ((hDl.mono G6.gg).mono F.kp).isList (hc6.mono F.kp).isList (by simp [hb0]) rm1.units (fun j h1 h2 => by simp at h2) prog w _ _ (wpAny_truthy_bool ?_)
      rw [show (List.range (bs.map Value.ref).toArray.size).all (fun _ => true) = true by simp, if_pos rfl]
      refine wpAny_execs_cons (wpAny_Return_some (List_ (spliced_none (newList_G F.kp fun g7 c7 s7 G7 hc7 => ?_))))
      refine h g7 _ c7 (F.on G7).ret.toGrow ?_
      rw [hoe]
      exact hc7
    | cons o1 orest =>
      have hpos : 0 < ords.length := by rw [hoe]; simp
      refine RcAt.lists_lengths ((hDl.mono G6.gg).mono F.kp).isList (hc6.mono F.kp).isList (by simp; intro q; rw [q] at hbl; simp at hbl; omega) rm1.units prog w _ _ (wpAny_truthy_bool ?_)
      rw [if_neg (by decide)]
      refine wpAny_execs_nil ?_
      refine wpAny_execs_cons (wpAny_Return_some (List_ (spliced_more ?_)))
      clear hoe
      have hlt : ∀ j, argBest (btOf xss ords) j ≤ j := fun j => by
        induction j with
        | zero => exact Nat.le_refl _
        | succ j ih => unfold argBest; split <;> omega
      generalize hbi : argBest (btOf xss ords) (ords.length - 1) = bi
      have hbi' : bi < ords.length := by have := hlt (ords.length - 1); omega
      have hxe : ords.getD bi [] = ords[bi] := by rw [List.getD_eq_getElem?_getD, List.getElem?_eq_getElem hbi']; rfl
      refine comp_evalF F (n := ords[bi].length) (P := fun k v => ∃ a t, ords[bi][k]? = some a ∧ v = .str (nm a) t) (J := fun k ys _ => ∃ qs : List (Ag × Tok), ys = qs.map sv ∧ qs.map (·.1) = (ords[bi].take k).filter fun a => decide (fst3 xss a < 3)) rfl rfl (by decide) rfl (fun C => .inl rfl) (fun _ _ _ _ h => h) ?_
      refine Subscript_ (callB (L.mono (((kg4.trans k5).trans G6.gg).trans F.kp)) rfl rfl rfl rfl rfl Boot.min (spliced_more (nmF F rfl (.inl rfl) rfl (spliced_none ?_))))
      have hrk : ∀ (i : Nat) (v : Value), (bs.map Value.ref)[i]? = some v → ∃ b, v = .ref b ∧ i < ords.length ∧ RK g6 b (rkOf xss (ords.getD i [])) := fun i v hv => by
        rw [List.getElem?_map] at hv
        cases hb : bs[i]? with
        | none => rw [hb] at hv; cases hv
        | some b =>
          rw [hb] at hv
          obtain ⟨p, hp, hr⟩ := hbs.at hb
          have hi : i < ords.length := by have := (List.getElem?_eq_some_iff.mp hb).1; omega
          rw [List.getElem?_map, List.getElem?_eq_getElem hi] at hp
          have hp : rkOf xss ords[i] = p := Option.some.inj hp
          refine ⟨b, (Option.some.inj hv).symm, hi, ?_⟩
          rw [List.getD_eq_getElem?_getD, List.getElem?_eq_getElem hi]
          exact hp ▸ hr.mono G6.gg
      refine min_G rm1.hh (btOf xss ords) F.kp (hDl.mono G6.gg) (fun i j vi vj s' ks hvi hvj => ?_) (by rw [List.length_map]; omega) fun v s7 hv G7 => ?_
      · obtain ⟨b1, rfl, _, r1⟩ := hrk i vi hvi
        obtain ⟨b2, rfl, _, r2⟩ := hrk j vj hvj
        exact LtAt.ranks (r1.mono ks) (r2.mono ks) (by have := rm1.un; show (A.deeper (envAt w 106 s.heap.objs.size)).units + 1 + 8 < cLine; omega)
      have F := F.on G7
      rw [List.length_map, hbl, hbi] at hv
      obtain ⟨b, rfl, _, c1, c2, hb1, hb2, ps, hps, hb3⟩ := hrk bi v hv
      rw [hxe] at hps
      have hps : ps.map (·.1) = ords[bi] := hps
      have hpl : ps.length = ords[bi].length := by rw [← hps, List.length_map]
      refine cInt F fun t8 s8 F e8 => item_G (hb1.mono F.kp) (by decide) (v := .ref c2) rfl ?_
      refine ⟨g6, F, (Src.list rm1.hh F.kp hb3).imp (by rw [List.length_map, hpl]) (fun i v hv => ?_), by rw [sizeLine_eq]; have := hz2 ords[bi] (List.getElem_mem hbi'); omega, ⟨[], rfl, rfl⟩, fun C hC => ?_, fun D2 ys2 g7 s9 F k7 hD2 hJ2 => ?_⟩
      · rw [List.getElem?_map] at hv
        cases hp : ps[i]? with
        | none => rw [hp] at hv; cases hv
        | some p =>
          rw [hp] at hv
          exact ⟨p.1, p.2, by rw [← hps, List.getElem?_map, hp]; rfl, (Option.some.inj hv).symm⟩
      · intro j v ys2 own2 g8 s9 E3 hj hPv kg8 hJ2 Fd
        obtain ⟨a, ta, hxa, rfl⟩ := hPv
        obtain ⟨tv, htv⟩ := hfi a
        refine wpAny_tests_one (wpAny_isTrue_Compare1 (Subscript_ (nmF Fd rfl (.inr rfl) m2 (nmF Fd rfl (.inl rfl) rfl (dictItem Fd (Fd.kp _ _ (kg8 _ _ (G6.gg _ _ (k5 _ _ ho)))) hD htv fun s10 Fd _ => cInt Fd fun t11 s11 Fd _ => PyProof.Rows.lt_int (wpAny_truthy_bool ?_))))))
        obtain ⟨qs, rfl, hqs⟩ := hJ2
        have key : (ords[bi].take (j + 1)).filter (fun a => decide (fst3 xss a < 3)) = (ords[bi].take j).filter (fun a => decide (fst3 xss a < 3)) ++ (if fst3 xss a < 3 then [a] else []) := by
          rw [List.take_add_one, hxa, List.filter_append]
          simp only [Option.toList_some, List.filter_cons, List.filter_nil, decide_eq_true_eq]
        by_cases hf : fst3 xss a < 3
        · rw [decide_eq_true (by omega), if_pos rfl]
          refine nmF Fd rfl (.inl rfl) rfl ⟨g8, Fd, Kp.refl _, qs ++ [(a, ta)], by simp, ?_⟩
          rw [key, if_pos hf, List.map_append, hqs]; rfl
        · rw [decide_eq_false (by omega), if_neg (by decide)]
          refine ⟨g8, Fd, Kp.refl _, qs, rfl, ?_⟩
          rw [key, if_neg hf, hqs, List.append_nil]
      obtain ⟨qs, rfl, hqs⟩ := hJ2
      rw [List.take_length] at hqs
      refine spliced_none (newList_G F.kp fun g8 c8 s10 G8 hc8 => ?_)
      refine h g8 _ c8 (F.on G8).ret.toGrow ?_
      have e : least xss ords = some (ords[bi].filter fun a => decide (fst3 xss a < 3)) := by
        unfold least
        rw [if_neg (by simp; intro q; rw [q] at hpos; simp at hpos), hbi, hxe]
      rw [e]
      exact ⟨D2, hc8, qs, hqs, hD2.mono G8.gg⟩
end
end Mine
end

section
set_option maxRecDepth 100000
set_option autoImplicit false
set_option linter.unusedVariables false
set_option linter.unusedSimpArgs false
open PySem PySem.W PyProof.Rows
namespace Mine
open PySem.SeqAt
open PyProof.Rows.TI (Frs SameUp)
local macro_rules | `(tactic| walk_at "body") => `(tactic| (unfold bodyAt; conv => (arg 3; arg 1; whnf)))
local macro_rules | `(tactic| walk_at "bind") => `(tactic| (refine BindsTo.of_eq ?_; unfold fdAt; (conv => lhs; arg 1; whnf); rfl))

/-! what is told, as data -/
def toldD : Option (List Ag) → PyData
  | none => .list []
  | some r => .list [agD r]
theorem Told.reads {g : Heap} {a : Addr} {r : Option (List Ag)} (h : Told g a r) : ∃ as, Reads g (.ref a) (toldD r) as := by
  cases r with
  | none => obtain ⟨n, e⟩ := h; exact ⟨_, .list e rfl rfl .nil⟩
  | some r =>
    obtain ⟨b, ⟨n, e⟩, hl⟩ := h
    exact ⟨_, .list e rfl rfl (.cons hl.reads .nil)⟩
theorem shaped_told (r : Option (List Ag)) : shaped (toldD r) = true := by
  cases r with
  | none => decide
  | some r =>
    unfold shaped toldD
    simp only [PyData.canLay0, PyData.canLayAll0, canLay_ag, PyData.depth, PyData.depthAll, depth_ag]
    decide
theorem eqv_told (r q : Option (List Ag)) : PyData.eqv (toldD r) (toldD q) = decide (r = q) := by
  cases r <;> cases q <;> simp [toldD, PyData.eqv, PyData.eqvAll, eqv_ag]

/-- the row that a number tells, with an agent behind it -/
def tri (rows : List (List Ag)) (i : Nat) (a : Ag) : List (List Ag) := rows.take i ++ [rows.getD i [] ++ [a]] ++ rows.drop (i + 1)
def fits (row o : List Ag) : Bool := decide ((o.filter fun x => row.contains x) = row)
def fit (ords : List (List Ag)) (row : List Ag) : List (List Ag) := ords.filter (fits row)

structure Okay (N : Nat) (Ok : List (List Ag) → List (List Ag) → Prop) : Prop where
  sz : ∀ rows ords, Ok rows ords → rows.length = 3 ∧ tot rows ≤ 100 ∧ ords.length ≤ 1000 ∧ ∀ o ∈ ords, o.length ≤ 100
  same : ∀ rows ords i a, Ok rows ords → i < 3 → c3 N (tri rows i a) = least (tri rows i a) (fit ords (rows.getD i [] ++ [a]))
  next : ∀ rows ords i a, Ok rows ords → i < 3 → fit ords (rows.getD i [] ++ [a]) ≠ [] → Ok (tri rows i a) (fit ords (rows.getD i [] ++ [a]))

theorem tot_append : ∀ xs ys : List (List Ag), tot (xs ++ ys) = tot xs + tot ys
  | [], ys => by simp [tot]
  | x :: r, ys => by simp only [List.cons_append, tot, tot_append r ys]; omega
theorem tri_tot {rows : List (List Ag)} {i : Nat} {a : Ag} (h : i < rows.length) : tot (tri rows i a) = tot rows + 1 := by
  have e : rows = rows.take i ++ rows[i] :: rows.drop (i + 1) := by rw [← List.drop_eq_getElem_cons h, List.take_append_drop]
  have hg : rows.getD i [] = rows[i] := by rw [List.getD_eq_getElem?_getD, List.getElem?_eq_getElem h]; rfl
  unfold tri
  rw [hg]
  conv => rhs; rw [e]
  simp only [tot_append, tot, List.length_append, List.length_singleton]; omega
theorem tri_len {rows : List (List Ag)} {i : Nat} {a : Ag} (h : i < rows.length) : (tri rows i a).length = rows.length := by
  unfold tri; simp; omega

theorem Pw.take {α β : Type} {R : α → β → Prop} {as : List α} {xs : List β} (h : Pw R as xs) (n : Nat) : Pw R (as.take n) (xs.take n) :=
  ⟨by simp [h.1], fun i a x e1 e2 => by
    rw [List.getElem?_take] at e1 e2
    split at e1
    · rename_i hi
      rw [if_pos hi] at e2
      exact h.2 i a x e1 e2
    · cases e1⟩
theorem Pw.drop {α β : Type} {R : α → β → Prop} {as : List α} {xs : List β} (h : Pw R as xs) (n : Nat) : Pw R (as.drop n) (xs.drop n) :=
  ⟨by simp [h.1], fun i a x e1 e2 => by rw [List.getElem?_drop] at e1 e2; exact h.2 _ a x e1 e2⟩
theorem Pw.app {α β : Type} {R : α → β → Prop} {as bs : List α} {xs ys : List β} (h : Pw R as xs) (h2 : Pw R bs ys) : Pw R (as ++ bs) (xs ++ ys) :=
  ⟨by simp [h.1, h2.1], fun i a x e1 e2 => by
    by_cases hi : i < as.length
    · rw [List.getElem?_append_left hi] at e1
      rw [List.getElem?_append_left (h.1 ▸ hi)] at e2
      exact h.2 i a x e1 e2
    · rw [List.getElem?_append_right (by omega)] at e1
      rw [List.getElem?_append_right (by rw [← h.1]; omega), ← h.1] at e2
      exact h2.2 _ a x e1 e2⟩
theorem Pw.one {α β : Type} {R : α → β → Prop} {a : α} {x : β} (h : R a x) : Pw R [a] [x] := (Pw.nil R).snoc h

section
variable {prog : Program} {w : World} {A : Around} {E : Value → Shared → Prop} {g₀ g : Heap} {s₀ s : Shared} {env : Env} {ro : List Str} {m : Str → Option Value} {own : List (Addr × Obj)}
theorem divI {a b : Int} {t u : Tok} {Q : Value → Shared → Prop} (F : FS g₀ s₀ env ro m own g s) (hb : b ≠ 0) (hb2 : b.natAbs < 1000) (h : ∀ t s', FS g₀ s₀ env ro m own g s' → s'.heap = s.heap → Q (.int (a.fdiv b) t) s') : wpAny (model prog w) A (binaryOp .FloorDiv (.int a t) (.int b u)) Q E s :=
  PyProof.Rows.floordiv_int hb (h _ _ (F.tok _) rfl) (Or.inl (PyProof.noPylong_small (by omega)))
theorem gtI {a b : Int} {t u : Tok} {Q : Value → Shared → Prop} (h : Q (.bool (decide (b < a))) s) : wpAny (model prog w) A (compareOp .Gt (.int a t) (.int b u)) Q E s := PyProof.Rows.gt_int h
end
theorem ag_of : ∀ n : Nat, n < 4 → ∃ a : Ag, a.val = n := fun n h => ⟨⟨n, h⟩, rfl⟩
end Mine
end

section
set_option maxRecDepth 100000
set_option autoImplicit false
set_option linter.unusedVariables false
set_option linter.unusedSimpArgs false
open PySem PySem.W PyProof.Rows
namespace Mine
open PySem.SeqAt
open PyProof.Rows.TI (Frs SameUp)
local macro_rules | `(tactic| walk_at "body") => `(tactic| (unfold bodyAt; conv => (arg 3; arg 1; whnf)))
local macro_rules | `(tactic| walk_at "bind") => `(tactic| (refine BindsTo.of_eq ?_; unfold fdAt; (conv => lhs; arg 1; whnf); rfl))

section
variable {prog : Program} {w : World} {A : Around} {E : Value → Shared → Prop} {g₀ g : Heap} {s₀ s : Shared} {env : Env} {ro : List Str} {m : Str → Option Value} {own : List (Addr × Obj)}

/-- a call of _law_told from a frame whose table the exception may mark -/
theorem told_F {fr : List (Addr × Obj)} {l : List Env} {Rw : Addr} {xss : List (List Ag)} {N : Nat} {Q : Value → Shared → Prop} (F : FS g₀ s₀ env ro m (fr ++ own) g s) (L : Ld w g) (rm : Rm 6 A) (hfr : A.frames = some (env :: l)) (Fs : Frs l fr) (hk : env.scope.kind = .function) (hf : env.frame = some env.locals)
    (hR : LR g Rw xss) (hz : tot xss ≤ 1000) (hz2 : xss.length ≤ 1000) (hN : tot xss < N)
    (h : ∀ g' s' fr' a, FS g₀ s₀ env ro m (fr' ++ own) g' s' → Kp g g' → SameUp fr fr' → Told g' a (c3 N xss) → Q (.ref a) s') : wpAny (model prog w) A (call (.ref 96) [.ref Rw]) Q E s := by
  obtain ⟨ml, ⟨oL, es, ep, hoL, hdL, _⟩, _⟩ := id F.ns
  have nd := F.ownNd
  rw [List.map_append, List.nodup_append] at nd
  refine told_ok (l := env :: l) (fr := (env.locals, oL) :: fr) L F.kp rm hfr ⟨by rw [hk]; decide, hf, ⟨es, ep, hdL⟩, Fs⟩ (fun p hp => ?_) ?_ hR hz hz2 hN fun g' s' fr' a R SU T => ?_
  · rcases List.mem_cons.mp hp with rfl | hp
    · exact ⟨hoL, F.locNew.2⟩
    · exact ⟨(F.mine p (List.mem_append_left _ hp)).1, (F.mine p (List.mem_append_left _ hp)).2.2.1⟩
  · rw [List.map_cons, List.nodup_cons]
    refine ⟨fun q => ?_, nd.1⟩
    obtain ⟨p, hp, e⟩ := List.mem_map.mp q
    exact (F.mine p (List.mem_append_left _ hp)).2.2.2.1 e
  · cases fr' with
    | nil => exact False.elim SU
    | cons q fr' =>
      obtain ⟨q1, q2⟩ := q
      obtain ⟨x1, x2, x3⟩ := SU
      have x1 : q1 = env.locals := x1
      subst x1
      exact h g' s' fr' a (FS.backSelf F hoL R x2) R.grow.gg x3 T

set_option maxHeartbeats 4000000 in
theorem grown_ok {N : Nat} {Ok : List (List Ag) → List (List Ag) → Prop} {Rw O Dw : Addr} {rows ords : List (List Ag)} {vs : List Value} {fr : List (Addr × Obj)} {l : List Env} {Q : Value → Shared → Prop} (OK : Okay N Ok) (hN : 200 < N) (L : Ld w g) (k : Kp g s.heap) (rm : Rm 11 A) (hfr : A.frames = some l) (Fs : Frs l fr)
    (hl : ∀ p ∈ fr, s.heap.get? p.1 = some p.2 ∧ g.get? p.1 = none) (hnd : (fr.map (·.1)).Nodup) (hR : LR g Rw rows) (hO : LE g O ords) (hok : Ok rows ords) (hD : LL g Dw vs) (hvs : ∀ v ∈ vs, ∃ i t, v = .int i t)
    (h : ∀ g' s' fr' a rows' ords', Ret g s fr fr' g' s' → SameUp fr fr' → LR g' a rows' → Ok rows' ords' → Q (.ref a) s') : wpAny (model prog w) A (call (.ref 111) [.ref Rw, .ref O, .ref Dw]) Q E s := by
  refine wpAny_call ?_
  refine call_at 111 (binds := [(Str.ofString "rows", .ref Rw), (Str.ofString "orders", .ref O), (Str.ofString "draws", .ref Dw)]) fr L k hl hnd rm.room rfl rfl rfl (by walk_at "bind") rfl rfl rfl rfl rfl fun s₁ F => ?_
  walk_at "body"
  have rm1 : Rm 10 (A.deeper (envAt w 111 s.heap.objs.size)) := rm.deeper
  refine wpAny_execs_cons (for_stmtF F (n := vs.length) (P := fun k v => vs[k]? = some v) (fun k m own g' => ∃ (rows ords : List (List Ag)) (Rw O : Addr) (fr' : List (Addr × Obj)), m (Str.ofString "rows") = some (.ref Rw) ∧ m (Str.ofString "orders") = some (.ref O) ∧ LR g' Rw rows ∧ LE g' O ords ∧ Ok rows ords ∧ own = fr' ∧ SameUp fr fr') rfl (.inl rfl)
    (nmF F rfl (.inl rfl) rfl ⟨g, _, _, F, Src.list rm1.hh F.kp hD, ⟨rows, ords, Rw, O, fr, rfl, rfl, hR, hO, hok, rfl, SameUp.refl _⟩, ?_, ?_⟩))
  · clear hR hO hok F
    intro j v p m2 own2 g2 s2 E2 hj hv kg hI F
    obtain ⟨rows, ords, Rw, O, fr', m1, m2', hR, hO, hok, rfl, SU⟩ := hI
    obtain ⟨x, tx, rfl⟩ := hvs v (List.mem_of_getElem? hv)
    obtain ⟨z1, z2, z3, z4⟩ := OK.sz rows ords hok
    obtain ⟨i, hi, ei⟩ : ∃ i : Nat, i < 3 ∧ x.fmod 3 = (i : Int) := ⟨(x.fmod 3).toNat, by have := Int.fmod_lt_of_pos x (b := 3) (by decide); have := Int.fmod_nonneg_of_pos x (b := 3) (by decide); omega, by have := Int.fmod_nonneg_of_pos x (b := 3) (by decide); omega⟩
    obtain ⟨a, ea⟩ : ∃ a : Ag, (x.fdiv 3).fmod 4 = (a.val : Int) := by
      have h1 := Int.fmod_lt_of_pos (x.fdiv 3) (b := 4) (by decide)
      have h2 := Int.fmod_nonneg_of_pos (x.fdiv 3) (b := 4) (by decide)
      exact ⟨⟨((x.fdiv 3).fmod 4).toNat, by omega⟩, by show _ = ((((x.fdiv 3).fmod 4).toNat : Nat) : Int); omega⟩
    obtain ⟨as, hA, hP⟩ := hR
    have hx : rows[i]? = some (rows.getD i []) := by rw [List.getD_eq_getElem?_getD, List.getElem?_eq_getElem (by omega)]; rfl
    obtain ⟨b, hb, ps, hps, hbl⟩ := hP.at' hx
    have hrz : (rows.getD i []).length ≤ 100 := Nat.le_trans (len_le_tot (List.mem_of_getElem? hx)) z2
    have hpz : ps.length ≤ 100 := by rw [← hps, List.length_map] at hrz; exact hrz
    have ld : ∀ {g' s'}, Kp g2 g' → Kp g' s'.heap → Ld w (Shared.heap s') := fun k1 k2 => L.mono ((kg.trans k1).trans k2)
    -- row = ..
    refine wpAny_execs_cons (wpAny_Assign_Name (wpAny_BinOp (Subscript_ (nmF F rfl (.inl rfl) m1 (wpAny_BinOp (nmF F rfl (.inl rfl) rfl (cInt F fun t3 s3 F _ => modI F (by decide) fun t4 s4 F _ => ?_)))))) rfl)
    refine item_G (hA.mono F.kp) (by omega) (v := .ref b) (by rw [ei, Int.toNat_natCast, List.getElem?_map, hb]; rfl) ?_
    refine List_ (spliced_more (Subscript_ (List_ (spliced_more (cStr F fun t0 s5 F _ => spliced_more (cStr F fun t1 s6 F _ => spliced_more (cStr F fun t2 s7 F _ => spliced_more (cStr F fun t3 s8 F _ => spliced_none (newList_G F.kp fun g3 l3 s9 G3 hl3 => ?_)))))))))
    have F := F.on G3
    refine wpAny_BinOp (wpAny_BinOp (nmF F rfl (.inl rfl) rfl (cInt F fun t5 s10 F _ => divI F (by decide) (by decide) fun t6 s11 F _ => cInt F fun t7 s12 F _ => modI F (by decide) fun t8 s13 F e13 => ?_)))
    obtain ⟨ta, hta⟩ : ∃ ta, [Value.str (nm 0) t0, .str (nm 1) t1, .str (nm 2) t2, .str (nm 3) t3][a.val]? = some (.str (nm a) ta) := by
      match a with
      | 0 => exact ⟨t0, rfl⟩
      | 1 => exact ⟨t1, rfl⟩
      | 2 => exact ⟨t2, rfl⟩
      | 3 => exact ⟨t3, rfl⟩
    refine item_G (hl3.mono F.kp) (by omega) (v := .str (nm a) ta) (by rw [ea, Int.toNat_natCast]; exact hta) (spliced_none (newList_G F.kp fun g4 l4 s14 G4 hl4 => ?_))
    have F := F.on G4
    refine add_G F.kp (((hbl.mono G3.gg).mono G4.gg).mono F.kp) (hl4.mono F.kp) (fun g5 c5 s15 G5 hc5 => ?_) (by rw [sizeLine_eq]; simp; omega)
    have F := F.on G5
    have kg5 := (G3.gg.trans G4.gg).trans G5.gg
    have hrow : LS g5 c5 (rows.getD i [] ++ [a]) := ⟨ps ++ [(a, ta)], by rw [List.map_append, hps]; rfl, by rw [List.map_append]; exact hc5⟩
    refine stF F rfl (.inr ⟨rfl, by simp⟩) fun s16 F => ?_
    -- tried = ..
    refine wpAny_execs_cons (wpAny_Assign_Name (wpAny_BinOp (wpAny_BinOp (slice_N (nmF F rfl (.inl rfl) m1 (wpAny_evalPart_none (wpAny_evalPart_some (wpAny_BinOp (nmF F rfl (.inl rfl) rfl (cInt F fun t9 s17 F _ => modI F (by decide) fun t10 s18 F _ => ?_)))))) (fun _ _ => rfl)))) rfl)
    have hal : as.length = 3 := by rw [hP.1, z1]
    refine ⟨g5, Rw, as.map Value.ref, none, some (x.fmod 3), rfl, F.kp, (hA.mono kg5).mono F.kp, by rw [sizeLine_eq, List.length_map]; omega, .none, .int _ _, fun g6 c6 s19 G6 hn6 hc6 => ?_⟩
    rw [ei, slicePick_upto _ i (by simp; omega)] at hc6
    have F := F.on G6
    refine List_ (spliced_more (nmF F rfl (.inr rfl) rfl (spliced_none (newList_G F.kp fun g7 c7 s20 G7 hc7 => ?_))))
    have F := F.on G7
    refine add_G F.kp ⟨0, F.kp _ _ (G7.gg _ _ hc6)⟩ (hc7.mono F.kp) (fun g8 c8 s21 G8 hc8 => ?_) (by rw [sizeLine_eq]; simp; omega)
    have F := F.on G8
    have kg8 := ((kg5.trans G6.gg).trans G7.gg).trans G8.gg
    refine slice_N (nmF F rfl (.inl rfl) m1 (wpAny_evalPart_some (wpAny_BinOp (wpAny_BinOp (nmF F rfl (.inl rfl) rfl (cInt F fun t11 s22 F _ => modI F (by decide) fun t12 s23 F _ => cInt F fun t13 s24 F _ => addI F fun t14 s25 F _ => wpAny_evalPart_none ?_)))))) (fun _ _ => rfl)
    refine ⟨g8, Rw, as.map Value.ref, some (x.fmod 3 + 1), none, rfl, F.kp, (hA.mono kg8).mono F.kp, by rw [sizeLine_eq, List.length_map]; omega, .int _ _, .none, fun g9 c9 s26 G9 hn9 hc9 => ?_⟩
    rw [show x.fmod 3 + 1 = ((i + 1 : Nat) : Int) by rw [ei]; omega, slicePick_from _ (i + 1) (by simp; omega)] at hc9
    have F := F.on G9
    refine add_G F.kp ((hc8.mono G9.gg).mono F.kp) ⟨0, F.kp _ _ hc9⟩ (fun g10 T s27 G10 hT => ?_) (by rw [sizeLine_eq]; simp; omega)
    have F := F.on G10
    have kg10 := (kg8.trans G9.gg).trans G10.gg
    have k510 : Kp g5 g10 := (((G6.gg.trans G7.gg).trans G8.gg).trans G9.gg).trans G10.gg
    have hT : LR g10 T (tri rows i a) := by
      refine ⟨as.take i ++ [c5] ++ as.drop (i + 1), ?_, ?_⟩
      · have e : (as.take i ++ [c5] ++ as.drop (i + 1)).map Value.ref = (((as.map Value.ref).toArray.toList.take i).toArray.toList ++ [Value.ref c5]) ++ ((as.map Value.ref).toArray.toList.drop (i + 1)).toArray.toList := by simp
        rw [e]; exact hT
      · have hP' := hP.mono (R' := LS g10) fun _ _ h => h.mono kg10
        exact ((hP'.take i).app (Pw.one (hrow.mono k510))).app (hP'.drop (i + 1))
    refine stF F rfl (.inl rfl) fun s28 F => ?_
    -- record = ..
    have hrl : (rows.getD i [] ++ [a]).length ≤ 1000 := by rw [List.length_append, List.length_singleton]; omega
    refine wpAny_execs_cons (wpAny_Assign_Name (callG (ld kg10 F.kp) rfl rfl rfl rfl rfl (spliced_more (nmF F rfl (.inr rfl) rfl (spliced_none ⟨(ld kg10 F.kp).X, record_ok (L.mono (kg.trans kg10)) F.kp (rm1.less (by omega)) (hrow.mono k510) hrl fun g11 s29 er G11 her => ?_⟩)))) rfl)
    have F := F.on G11
    refine stF F rfl (.inr ⟨rfl, by simp⟩) fun s30 F => ?_
    have kg11 := kg10.trans G11.gg
    generalize hrw : rows.getD i [] ++ [a] = row at hrow her hrl
    -- fitting = ..
    obtain ⟨es, hE, hPe⟩ := hO
    refine wpAny_execs_cons (comp_assignF F (n := (es.map Value.ref).length) (P := fun k v => (es.map Value.ref)[k]? = some v) (J := fun k ys g' => ∃ bs : List Addr, ys = bs.map Value.ref ∧ Pw (IsEnt g') bs (fit (ords.take k) row)) rfl rfl (by decide) rfl (fun C => .inl rfl)
      (fun ys g g' kg h => let ⟨bs, e, p⟩ := h; ⟨bs, e, p.mono fun _ _ h => h.mono kg⟩) rfl rfl (nmF F rfl (.inl rfl) m2' ?_))
    refine ⟨g11, F, Src.list rm1.hh F.kp (hE.mono kg11), by rw [sizeLine_eq, List.length_map, hPe.1]; omega, ⟨[], rfl, Pw.nil _⟩, fun C hC => ?_, fun D ys g12 s31 F k12 hDl hJ => ?_⟩
    · intro q v ys own g13 s32 E3 hq hPv kg13 hJ Fc
      rw [List.length_map] at hq
      rw [List.getElem?_map, List.getElem?_eq_getElem hq] at hPv
      have hPv : Value.ref es[q] = v := by simpa using hPv
      subst hPv
      obtain ⟨o, ho, hent⟩ := hPe.at (List.getElem?_eq_getElem hq)
      have hoz : o.length ≤ 1000 := Nat.le_trans (z4 o (List.mem_of_getElem? ho)) (by omega)
      have kk := kg11.trans kg13
      refine wpAny_tests_one (wpAny_isTrue_Compare1 (Attribute_any_ (callG (ld kk Fc.kp) rfl rfl rfl rfl rfl (spliced_more (nmF Fc rfl (.inl rfl) rfl (spliced_more (nmF Fc rfl (.inr rfl) rfl (spliced_none ⟨(ld kk Fc.kp).X, ?_⟩))))))))
      refine merge_ok (L.mono (kg.trans kk)) Fc.kp (rm1.less (by omega)) (hent.mono kk) (her.mono kg13) hoz hrl fun g14 s33 e14 G14 hm14 => ?_
      have Fc := Fc.on G14
      obtain ⟨dx, od, md, kd, l1, l2, q1, q2, q3, q4, q5, q6⟩ := hm14
      refine getAttr_I ((L.mono ((kg.trans kk).trans G14.gg)).X.keeps Fc.kp) (Fc.kp _ _ q1) (Fc.kp _ _ q2) q3 q4.ua (fun t15 => ?_)
      have Fc := Fc.tok t15
      refine nmF Fc rfl (.inr rfl) rfl ?_
      refine PyProof.Rows.eq_dataH (q5.mono Fc.kp).reads (((hrow.mono (k510.trans G11.gg)).mono (kg13.trans G14.gg)).mono Fc.kp).reads (shaped_ag _) (shaped_ag _) (by have := rm1.un; omega) (wpAny_truthy_bool ?_)
      rw [eqv_ag]
      obtain ⟨bs, rfl, hbs⟩ := hJ
      have key : fit (ords.take (q + 1)) row = fit (ords.take q) row ++ (if fits row o then [o] else []) := by
        unfold fit
        rw [List.take_add_one, ho, List.filter_append]
        simp only [Option.toList_some, List.filter_cons, List.filter_nil]
      by_cases hf : (o.filter fun x => row.contains x) = row
      · rw [decide_eq_true hf, if_pos rfl]
        refine nmF Fc rfl (.inl rfl) rfl ⟨g14, Fc, G14.gg, bs ++ [es[q]], by simp, ?_⟩
        rw [key, if_pos (show fits row o = true from decide_eq_true hf)]
        exact (hbs.mono fun _ _ h => h.mono G14.gg).snoc ((hent.mono kk).mono G14.gg)
      · rw [decide_eq_false hf, if_neg (by decide)]
        refine ⟨g14, Fc, G14.gg, bs, rfl, ?_⟩
        rw [key, if_neg (by unfold fits; rw [decide_eq_false hf]; decide), List.append_nil]
        exact hbs.mono fun _ _ h => h.mono G14.gg
    obtain ⟨bs, rfl, hbs⟩ := hJ
    rw [List.length_map, hPe.1, List.take_length] at hbs
    have kg12 := kg11.trans k12
    have hfl : (fit ords row).length ≤ 1000 := Nat.le_trans (List.length_filter_le _ _) z3
    have hTr : tot (tri rows i a) ≤ 101 := by rw [tri_tot (by omega)]; omega
    have hTl : (tri rows i a).length = 3 := by rw [tri_len (by omega), z1]
    -- told and least
    have F : FS g (hideS fr s) (envAt w 111 s.heap.objs.size) [] _ (own2 ++ [p]) g12 s31 := F.perm (List.perm_append_comm (l₁ := [p]))
    refine wpAny_execs_cons (wpAny_If (wpAny_isTrue_Compare1 (callG (ld kg12 F.kp) rfl rfl rfl rfl rfl (spliced_more (nmF F rfl (.inl rfl) rfl (spliced_none ⟨(ld kg12 F.kp).X, ?_⟩))))))
    refine told_F (N := N) F (L.mono (kg.trans kg12)) (rm1.less (by omega)) (Around.frames_deeper hfr) (Fs.up SU) rfl rfl ((hT.mono G11.gg).mono k12) (by omega) (by omega) (by omega) fun g15 s34 fr3 aT F k15 SU3 hTold => ?_
    have kg15 := kg12.trans k15
    refine callG (ld kg15 F.kp) rfl rfl rfl rfl rfl (spliced_more (nmF F rfl (.inl rfl) rfl (spliced_more (nmF F rfl (.inl rfl) rfl (spliced_none ⟨(ld kg15 F.kp).X, ?_⟩)))))
    refine least_ok (L.mono (kg.trans kg15)) F.kp (rm1.less (by omega)) (((hT.mono G11.gg).mono k12).mono k15) ⟨bs, hDl.mono k15, hbs.mono fun _ _ h => h.mono k15⟩ hTl hfl (fun o ho => Nat.le_trans (z4 o (List.mem_filter.mp ho |>.1)) (by omega)) (fun o ho => Nat.le_trans (len_le_tot ho) (by omega)) fun g16 s35 aL G16 hL => ?_
    have F := F.on G16
    obtain ⟨_, rT⟩ := ((hTold.mono G16.gg).mono F.kp).reads
    obtain ⟨_, rL⟩ := (hL.mono F.kp).reads
    refine PyProof.Rows.ne_dataH rT rL (shaped_told _) (shaped_told _) (by have := rm1.un; omega) (wpAny_truthy_bool ?_)
    rw [eqv_told, ← hrw, decide_eq_true (OK.same rows ords i a hok hi), if_neg (by decide)]
    refine wpAny_execs_nil ?_
    have kg16 := kg15.trans G16.gg
    have k1216 := k15.trans G16.gg
    -- if len(fitting) > 0
    refine wpAny_execs_cons (wpAny_If (wpAny_isTrue_Compare1 (callB (ld kg16 F.kp) rfl rfl rfl rfl rfl Boot.len (spliced_more (nmF F rfl (.inl rfl) rfl (spliced_none (lenF F ((hDl.mono k1216).mono F.kp) (by rw [sizeLine_eq, List.length_map, hbs.1]; omega) fun t16 s36 F _ => cInt F fun t17 s37 F _ => gtI (wpAny_truthy_bool ?_))))))))
    have SU' := SU.trans SU3
    have hbl : bs.length = (fit ords row).length := hbs.1
    by_cases hf : fit ords row = []
    · rw [decide_eq_false (by rw [List.length_map, hbl, hf]; decide), if_neg (by decide)]
      refine wpAny_execs_nil (wpAny_execs_nil ⟨_, fr3, g16, F.perm List.perm_append_comm, kg16, rows, ords, Rw, O, fr3, m1, m2', ⟨as, hA.mono kg16, hP.mono fun _ _ h => h.mono kg16⟩, ⟨es, hE.mono kg16, hPe.mono fun _ _ h => h.mono kg16⟩, hok, rfl, SU'⟩)
    · have hpos : 0 < (fit ords row).length := List.length_pos_iff.mpr hf
      rw [decide_eq_true (by rw [List.length_map, hbl]; omega), if_pos rfl]
      refine wpAny_execs_cons (wpAny_Assign_Name (nmF F rfl (.inl rfl) rfl (stF F rfl (.inl rfl) fun s38 F => ?_)) rfl)
      refine wpAny_execs_cons (wpAny_Assign_Name (nmF F rfl (.inl rfl) rfl (stF F rfl (.inl rfl) fun s39 F => ?_)) rfl)
      refine wpAny_execs_nil (wpAny_execs_nil ⟨_, fr3, g16, F.perm List.perm_append_comm, kg16, tri rows i a, fit ords row, T, D, fr3, rfl, rfl, ((hT.mono G11.gg).mono k12).mono k1216, ⟨bs, hDl.mono k1216, hbs.mono fun _ _ h => h.mono k1216⟩, ?_, rfl, SU'⟩)
      rw [← hrw] at hf ⊢
      exact OK.next rows ords i a hok hi hf
  · intro m2 own2 g2 s2 E2 kg hI F
    obtain ⟨rows, ords, Rw, O, fr', m1, m2', hR, hO, hok, rfl, SU⟩ := hI
    refine wpAny_execs_nil (wpAny_execs_cons (wpAny_Return_some (nmF F rfl (.inl rfl) m1 ?_)))
    exact h g2 _ _ Rw rows ords F.ret SU hR hok
end
end Mine
end

section
set_option maxRecDepth 100000
set_option autoImplicit false
set_option linter.unusedVariables false
set_option linter.unusedSimpArgs false
open PySem PySem.W PyProof.Rows
namespace Mine
open PySem.SeqAt
open PyProof.Rows.TI (Frs SameUp)

def isInt (v : Value) : Prop := ∃ i t, v = .int i t
section
variable {prog : Program} {w : World} {A : Around} {E : Value → Shared → Prop} {g₀ g : Heap} {s₀ s : Shared} {env : Env} {ro : List Str} {m : Str → Option Value} {own : List (Addr × Obj)}

theorem slicePick_mem {items : Array Value} {lo hi st : Option Int} {v : Value} (h : v ∈ (slicePick items lo hi st).toList) : v ∈ items.toList := by
  unfold slicePick at h
  obtain ⟨i, _, e⟩ := List.mem_filterMap.mp (by simpa using h)
  exact Array.mem_toList_iff.mpr (Array.mem_of_getElem? e)

theorem isl {h h' : Heap} {a : Addr} {xs : Array Value} (x : h.IsList a xs) (k : Kp h h') : h'.IsList a xs := let ⟨o, e, r⟩ := x; ⟨o, k _ _ e, r⟩
/-- a slice with a step -/
theorem slice3_N {value : Expr} {lower upper step : Option Expr} {p pos : Pos} {Q : Value → Shared → Prop}
    (h : wpAny (model prog w) A (eval value env) (fun o s₁ => wpAny (model prog w) A (evalPart lower env) (fun vl s₂ => wpAny (model prog w) A (evalPart upper env) (fun vu s₃ => wpAny (model prog w) A (evalPart step env) (fun vk s₄ =>
      ∃ (g : Heap) (l : Addr) (vs : List Value) (lw hi st : Option Int), o = .ref l ∧ Kp g s₄.heap ∧ s₄.heap.IsList l vs.toArray ∧ vs.length ≤ sizeLine ∧ IsPart vl lw ∧ IsPart vu hi ∧ IsPart vk st ∧ st ≠ some 0 ∧
        (subscripted (.Slice lower upper step p) false (.ref l) (.ref s₄.heap.objs.size) = operate [.ref l, .ref s₄.heap.objs.size] (getItem (.ref l) (.ref s₄.heap.objs.size)) ∨ subscripted (.Slice lower upper step p) false (.ref l) (.ref s₄.heap.objs.size) = operate [.ref l] (getItem (.ref l) (.ref s₄.heap.objs.size)) ∨ ∃ ops, subscripted (.Slice lower upper step p) false (.ref l) (.ref s₄.heap.objs.size) = operate ops (getItem (.ref l) (.ref s₄.heap.objs.size))) ∧
        ∀ g' c s', Grow g s₄ g' s' → LL g' c (slicePick vs.toArray lw hi st).toList → Q (.ref c) s') E s₃) E s₂) E s₁) E s) :
    wpAny (model prog w) A (eval (.Subscript value (.Slice lower upper step p) pos) env) Q E s := by
  refine Subscript_ (wpAny_mono h (fun o s₁ h₁ => wpAny_Slice (wpAny_mono h₁ (fun vl s₂ h₂ => wpAny_mono h₂ (fun vu s₃ h₃ => wpAny_mono h₃ (fun vk s₄ h₄ => ?_) fun _ _ e => e) fun _ _ e => e) fun _ _ e => e)) fun _ _ e => e)
  obtain ⟨g, l, vs, lw, hi, st, rfl, k, hl, hsz, pl, pu, pk, h0, hs, hQ⟩ := h₄
  have hs' : ∃ ops, subscripted (.Slice lower upper step p) false (.ref l) (.ref s₄.heap.objs.size) = operate ops (getItem (.ref l) (.ref s₄.heap.objs.size)) := by
    rcases hs with hs | hs | hs
    · exact ⟨_, hs⟩
    · exact ⟨_, hs⟩
    · exact hs
  obtain ⟨ops, hs⟩ := hs'
  refine tail_any (Heap.IsList.typeIs (s := { s₄ with heap := s₄.heap.push { cls := .type "slice", data := .fields #[vl, vu, vk] } }) (hl.push _)) list_getitem_lookup
    (wpAny_getItem_list_slice (hl.push _) (Heap.IsSliceOf.new ..) pl pu pk h0 ?_ (by simpa using hsz)) hs
  obtain ⟨g', G, nw⟩ := grow_of (s' := { s₄ with heap := (s₄.heap.push { cls := .type "slice", data := .fields #[vl, vu, vk] }).push { cls := .type "list", data := .seq (slicePick vs.toArray lw hi st) } }) k ⟨_, _, rfl, fun b o e => Heap.get?_push_of_some _ (Heap.get?_push_of_some _ e)⟩
  rw [show ({ s₄ with heap := s₄.heap.push { cls := .type "slice", data := .fields #[vl, vu, vk] } } : Shared).heap.objs.size = s₄.heap.objs.size + 1 from Heap.size_push ..]
  have fr : s₄.heap.get? (s₄.heap.objs.size + 1) = none := by
    cases q : s₄.heap.get? (s₄.heap.objs.size + 1) with
    | none => rfl
    | some o => exact absurd (Heap.lt_size q) (Nat.not_lt.mpr (Nat.le_succ _))
  refine hQ g' _ _ G ⟨0, nw _ _ fr ?_⟩
  have e1 := Heap.get?_push_size (s₄.heap.push { cls := .type "slice", data := .fields #[vl, vu, vk] }) (o := { cls := .type "list", data := .seq (slicePick vs.toArray lw hi st) }) rfl
  rw [Heap.size_push] at e1
  simpa using e1

theorem sumF {l : Addr} {vs : List Value} {Q : Value → Shared → Prop} (hh : A.handled = none) (F : FS g₀ s₀ env ro m own g s) (hl : LL s.heap l vs) (hi : ∀ v ∈ vs, isInt v)
    (h : ∀ n t s', FS g₀ s₀ env ro m own g s' → Q (.int n t) s') : wpAny (model prog w) A (call (.builtin "sum") [.ref l]) Q E s := by
  have lt : l < s.heap.objs.size := by obtain ⟨n, e⟩ := hl; exact Heap.lt_size e
  refine call_sum_walkG (wpAny_pyIter_list hl.isList ?_)
  refine ⟨s.heap.objs.size, [s.heap.objs.size, l], [s.heap.objs.size], vs.toArray.size, fun i v => vs.toArray[i]? = some v, _, fun i => match vs[i]? with | some (.int n _) => n | _ => 0, rfl, Walks.list (A := A.in1) hh s.heap.objs.size l (Nat.ne_of_lt lt) vs.toArray,
    ⟨⟨_, Heap.get?_push_size _ rfl, rfl, rfl⟩, hl.isList.push _⟩, fun b hb => ?_, fun i v hv => ?_, fun h' tk t' hk => ?_⟩
  · simp only [List.mem_cons, List.not_mem_nil, or_false] at hb
    rw [Heap.size_push]
    rcases hb with rfl | rfl
    · exact Nat.lt_succ_self _
    · exact Nat.lt_succ_of_lt lt
  · have hv : vs[i]? = some v := by simpa using hv
    obtain ⟨n, t, rfl⟩ := hi v (List.mem_of_getElem? hv)
    exact ⟨t, by dsimp only; rw [hv]⟩
  · have kp : Kp s.heap h' := fun b o e => hk b o (by simp only [List.mem_cons, List.not_mem_nil, or_false]; exact Nat.ne_of_lt (Heap.lt_size e)) (Heap.get?_push_of_some _ e)
    exact h _ t' _ (F.on ⟨⟨_, _, rfl⟩, kp, Kp.refl _, F.kp.trans kp, fun _ _ e => e⟩)
theorem powI {a n : Int} {t u : Tok} {Q : Value → Shared → Prop} (F : FS g₀ s₀ env ro m own g s) (hn : 0 ≤ n) (hn2 : n ≤ 1000) (ha : a.natAbs < 1000) (h : ∀ t s', FS g₀ s₀ env ro m own g s' → s'.heap = s.heap → Q (.int (a ^ n.toNat) t) s') : wpAny (model prog w) A (binaryOp .Pow (.int a t) (.int n u)) Q E s :=
  PyProof.Rows.pow_int_small hn (by omega) (Nat.lt_trans ha (by decide)) (h _ _ (F.tok _) rfl)

/-- a call of _law_grown from a frame whose table the exception may mark -/
theorem grown_F {N : Nat} {Ok : List (List Ag) → List (List Ag) → Prop} {Rw O Dw : Addr} {rows ords : List (List Ag)} {vs : List Value} {fr : List (Addr × Obj)} {l : List Env} {Q : Value → Shared → Prop} (OK : Okay N Ok) (hN : 200 < N) (F : FS g₀ s₀ env ro m (fr ++ own) g s) (L : Ld w g) (rm : Rm 11 A) (hfr : A.frames = some (env :: l)) (Fs : Frs l fr) (hk : env.scope.kind = .function) (hf : env.frame = some env.locals)
    (hR : LR g Rw rows) (hO : LE g O ords) (hok : Ok rows ords) (hD : LL g Dw vs) (hvs : ∀ v ∈ vs, ∃ i t, v = .int i t)
    (h : ∀ g' s' fr' a rows' ords', FS g₀ s₀ env ro m (fr' ++ own) g' s' → Kp g g' → SameUp fr fr' → LR g' a rows' → Ok rows' ords' → Q (.ref a) s') : wpAny (model prog w) A (call (.ref 111) [.ref Rw, .ref O, .ref Dw]) Q E s := by
  obtain ⟨ml, ⟨oL, es, ep, hoL, hdL, _⟩, _⟩ := id F.ns
  have nd := F.ownNd
  rw [List.map_append, List.nodup_append] at nd
  refine grown_ok OK hN (l := env :: l) (fr := (env.locals, oL) :: fr) L F.kp rm hfr ⟨by rw [hk]; decide, hf, ⟨es, ep, hdL⟩, Fs⟩ (fun p hp => ?_) ?_ hR hO hok hD hvs fun g' s' fr' a rows' ords' R SU T T2 => ?_
  · rcases List.mem_cons.mp hp with rfl | hp
    · exact ⟨hoL, F.locNew.2⟩
    · exact ⟨(F.mine p (List.mem_append_left _ hp)).1, (F.mine p (List.mem_append_left _ hp)).2.2.1⟩
  · rw [List.map_cons, List.nodup_cons]
    refine ⟨fun q => ?_, nd.1⟩
    obtain ⟨p, hp, e⟩ := List.mem_map.mp q
    exact (F.mine p (List.mem_append_left _ hp)).2.2.2.1 e
  · cases fr' with
    | nil => exact False.elim SU
    | cons q fr' =>
      obtain ⟨q1, q2⟩ := q
      obtain ⟨x1, x2, x3⟩ := SU
      have x1 : q1 = env.locals := x1
      subst x1
      exact h g' s' fr' a rows' ords' (FS.backSelf F hoL R x2) R.grow.gg x3 T T2
end
end Mine
end

section
set_option maxRecDepth 100000
set_option autoImplicit false
set_option linter.unusedVariables false
set_option linter.unusedSimpArgs false
open PySem PySem.W PyProof.Rows
namespace Mine
section
variable {prog : Program} {w : World} {A : Around} {E : Value → Shared → Prop} {g₀ gx : Heap} {s₀ s sx : Shared} {env : Env} {ro : List Str} {m : Str → Option Value} {own : List (Addr × Obj)}
variable {elt iter : Expr} {x : Str} {px : Pos} {ifs : List Expr} {scope : Scope} {pos : Pos}
/-- a list comprehension; what it is asked may hang on what it loops over -/
theorem comp_evalX {Q : Value → Shared → Prop} (F0 : FS g₀ s₀ env ro m own gx sx) (hks : scope.kind = .function) (hke : env.scope.kind = .function) (hnd : (scope.names.map (·.1)).Nodup) (hfree : (scope.names.all fun x => x.2 != .free || (env.cells.lookup x.1).isSome) = true)
    (hx : ∀ C, (cEnv scope C env).kindOf x = some .local ∨ ((cEnv scope C env).kindOf x = some .cell ∧ x ∉ cRo scope))
    (h : wpAny (model prog w) A (eval iter env) (fun xv s₁ => ∃ (g₁ : Heap) (n : Nat) (P : Nat → Value → Prop) (J : Nat → List Value → Heap → Prop), FS g₀ s₀ env ro m own g₁ s₁ ∧ Src prog w A g₁ s₁ xv n P ∧ n ≤ sizeLine ∧ J 0 [] g₁ ∧ (∀ ys g g', Kp g g' → J n ys g → J n ys g') ∧
      (∀ C, s₁.heap.objs.size ≤ C → CTurn prog w A g₁ s₁ (cEnv scope C env) (cRo scope) (cMap scope m) x ifs elt n P J) ∧
      ∀ D ys g' s', FS g₀ s₀ env ro m own g' s' → Kp g₁ g' → LL g' D ys → J n ys g' → Q (.ref D) s') E s)
    (hs : ∀ x, foldedSetIterable iter env x = pure x := by intro _; rfl) :
    wpAny (model prog w) A (eval (.ListComp elt [⟨.Name x px, iter, ifs, 0⟩] scope pos) env) Q E s := by
  rw [eval_ListComp]
  have hnames : ∀ x ∈ scope.names, x.2 = .local → scope.names.lookup x.1 = some .local := fun y hy e => by
    obtain ⟨a, b⟩ := y; dsimp only at e; subst e; exact lookup_mem_nodup hnd hy
  refine wpAny_comprehension_free (use := none) rfl hs (closureFor_clOf hfree) hks hnames (wpAny_mono h (fun xv s₁ h₁ => ?_) fun _ _ e => e)
  obtain ⟨g₁, n, P, J, F, src, hn, hJ, hJm, turn, hQ⟩ := h₁
  refine comp_core F src hke hks hnd hfree hx hn hJ turn fun C D ys c g' s' m' FC k' J' => ?_
  obtain ⟨oC, ml, e1, e2, R⟩ := comp_ret FC
  refine ⟨ml, e2 _ e1, fun h' hs' => ?_⟩
  have F1 := FS.back (lent := []) (own := own) F R
  have F2 := FS.moved (lent := [(C, oC)]) (lent' := []) (own := (D, lo ys c) :: own) F1 (s' := { s' with heap := h' }) ⟨_, _, rfl⟩ (fun b o hb e => hs'.extBut b o (by simpa using hb) e) (fun p hp => nomatch hp) List.nodup_nil
  obtain ⟨g2, F3, k3, e3⟩ := FS.freeze F2
  exact hQ D ys g2 _ F3 (k'.trans k3) ⟨c, e3⟩ (hJm _ _ _ k3 J')
theorem comp_assignX {t : Str} {pt spos : Pos} {Q : Flow → Shared → Prop} (F0 : FS g₀ s₀ env ro m own gx sx) (hks : scope.kind = .function) (hke : env.scope.kind = .function) (hnd : (scope.names.map (·.1)).Nodup) (hfree : (scope.names.all fun x => x.2 != .free || (env.cells.lookup x.1).isSome) = true)
    (hx : ∀ C, (cEnv scope C env).kindOf x = some .local ∨ ((cEnv scope C env).kindOf x = some .cell ∧ x ∉ cRo scope))
    (ht : env.kindOf t = some .local) (hsw : swapsWith (.ListComp elt [⟨.Name x px, iter, ifs, 0⟩] scope pos) (some (.Name t pt)) spos.line env = pure true)
    (h : wpAny (model prog w) A (eval iter env) (fun xv s₁ => ∃ (g₁ : Heap) (n : Nat) (P : Nat → Value → Prop) (J : Nat → List Value → Heap → Prop), FS g₀ s₀ env ro m own g₁ s₁ ∧ Src prog w A g₁ s₁ xv n P ∧ n ≤ sizeLine ∧ J 0 [] g₁ ∧ (∀ ys g g', Kp g g' → J n ys g → J n ys g') ∧
      (∀ C, s₁.heap.objs.size ≤ C → CTurn prog w A g₁ s₁ (cEnv scope C env) (cRo scope) (cMap scope m) x ifs elt n P J) ∧
      ∀ D ys g' s', FS g₀ s₀ env ro (put m t (.ref D)) own g' s' → Kp g₁ g' → LL g' D ys → J n ys g' → Q .next s') E s)
    (hs : ∀ x, foldedSetIterable iter env x = pure x := by intro _; rfl) :
    wpAny (model prog w) A (exec (.Assign [.Name t pt] (.ListComp elt [⟨.Name x px, iter, ifs, 0⟩] scope pos) spos) env) Q E s := by
  rw [exec_Assign_Name_used t pt _ spos hsw]
  refine wpAny_bind (wpAny_standAt (wpAny_bind ?_))
  have hnames : ∀ x ∈ scope.names, x.2 = .local → scope.names.lookup x.1 = some .local := fun y hy e => by
    obtain ⟨a, b⟩ := y; dsimp only at e; subst e; exact lookup_mem_nodup hnd hy
  rw [arm_evalThenUse_ListComp]
  refine wpAny_bind (wpAny_comprehension_free (use := some (assign (.Name t pt) env)) rfl hs (closureFor_clOf hfree) hks hnames (wpAny_mono h (fun xv s₁ h₁ => ?_) fun _ _ e => e))
  obtain ⟨g₁, n, P, J, F, src, hn, hJ, hJm, turn, hQ⟩ := h₁
  refine comp_core F src hke hks hnd hfree hx hn hJ turn fun C D ys c g' s' m' FC k' J' => ?_
  obtain ⟨oC, ml, e1, e2, R⟩ := comp_ret FC
  have F1 := FS.back (lent := []) (own := own) F R
  refine wpAny_assign_Name (stF F1 hke (.inl ht) fun s₂ F1 => ?_)
  refine ⟨ml, e2 _ (F1.ownGet (.head _)), fun h' hs' => ?_⟩
  have F2 := FS.moved (lent := [(C, oC)]) (lent' := []) (own := (D, lo ys c) :: own) F1 (s' := { s₂ with heap := h' }) ⟨_, _, rfl⟩ (fun b o hb e => hs'.extBut b o (by simpa using hb) e) (fun p hp => nomatch hp) List.nodup_nil
  obtain ⟨g2, F3, k3, e3⟩ := FS.freeze F2
  exact wpAny_pure (wpAny_pure (hQ D ys g2 _ F3 (k'.trans k3) ⟨c, e3⟩ (hJm _ _ _ k3 J')))
end
end Mine
end

section
set_option maxRecDepth 100000
set_option autoImplicit false
set_option linter.unusedVariables false
set_option linter.unusedSimpArgs false
open PySem PySem.W PyProof.Rows
namespace Mine
open PySem.SeqAt
open PyProof.Rows.TI (Frs SameUp)
local macro_rules | `(tactic| walk_at "body") => `(tactic| (unfold bodyAt; conv => (arg 3; arg 1; whnf)))
local macro_rules | `(tactic| walk_at "bind") => `(tactic| (refine BindsTo.of_eq ?_; unfold fdAt; (conv => lhs; arg 1; whnf); rfl))

/-- all orders, agent by agent -/
def wAll : Nat → List (List Ag)
  | 0 => [[]]
  | k + 1 => (wAll k).flatMap (wid (([0, 1, 2, 3] : List Ag).getD k 0))
def meet (rows : List (List Ag)) (ch : List Nat) : List Ag := (ch.drop 1).foldl (fun x i => x.filter fun a => (rows.getD i []).contains a) (rows.getD (ch.headD 0) [])
def bits (n k : Nat) : List Nat := (List.range k).filter fun i => n / 2 ^ i % 2 == 1
def hasAll (rows : List (List Ag)) (ch : List Nat) (a : Ag) : Bool := ch.all fun i => (rows.getD i []).contains a
theorem own_at (o0 o1 o2 o3 o4 o5 o6 o7 o8 o9 : Tok) (j : Nat) (hj : j < 10) : ∃ (i0 : Int) (ti : Tok), [Value.int 1 o0, .int 2 o1, .int 6 o2, .int 0 o3, .int 11 o4, .int 4 o5, .int 5 o6, .int 10 o7, .int 8 o8, .int 1 o9][j]? = some (.int i0 ti) :=
  match j, hj with
  | 0, _ => ⟨_, _, rfl⟩
  | 1, _ => ⟨_, _, rfl⟩
  | 2, _ => ⟨_, _, rfl⟩
  | 3, _ => ⟨_, _, rfl⟩
  | 4, _ => ⟨_, _, rfl⟩
  | 5, _ => ⟨_, _, rfl⟩
  | 6, _ => ⟨_, _, rfl⟩
  | 7, _ => ⟨_, _, rfl⟩
  | 8, _ => ⟨_, _, rfl⟩
  | 9, _ => ⟨_, _, rfl⟩
structure Plain (N : Nat) (Ok : List (List Ag) → List (List Ag) → Prop) : Prop where
  okay : Okay N Ok
  init : ∀ a b c : Ag, Ok [[a], [b], [c]] (wAll 4)
  told : ∀ rows ords, Ok rows ords → ∃ r, c3 N rows = some r ∧ r.length ≤ 100 ∧ ∀ n, 1 ≤ n → n < 8 → meet rows (bits n 3) = r.filter fun a => hasAll rows (bits n 3) a

end Mine
end

section
set_option maxRecDepth 100000
set_option autoImplicit false
set_option linter.unusedVariables false
set_option linter.unusedSimpArgs false
open PySem PySem.W PyProof.Rows
namespace Mine
open PySem.SeqAt
open PyProof.Rows.TI (Frs SameUp)
local macro_rules | `(tactic| walk_at "body") => `(tactic| (unfold bodyAt; conv => (arg 3; arg 1; whnf)))

theorem bits_step (n k : Nat) : bits n (k + 1) = bits n k ++ (if n / 2 ^ k % 2 == 1 then [k] else []) := by
  unfold bits
  rw [List.range_succ, List.filter_append]
  simp only [List.filter_cons, List.filter_nil]
theorem bits_lt {n k i : Nat} (h : i ∈ bits n k) : i < k := by
  unfold bits at h
  exact List.mem_range.mp (List.mem_filter.mp h).1
theorem bits_pos : ∀ n : Nat, n < 8 → 1 ≤ n → bits n 3 ≠ [] := by decide
theorem fdiv_nat (n i : Nat) : ((n : Int).fdiv ((2 : Int) ^ i)).fmod 2 = ((n / 2 ^ i % 2 : Nat) : Int) := by
  have e : ((2 : Int) ^ i) = ((2 ^ i : Nat) : Int) := by push_cast; rfl
  rw [e, Int.fdiv_eq_ediv_of_nonneg _ (Int.natCast_nonneg _), Int.fmod_eq_emod_of_nonneg _ (by decide)]
  rfl

def meetTo (rows : List (List Ag)) (ch : List Nat) (k : Nat) : List Ag := meet rows (ch.take k)
theorem meet_snoc {rows : List (List Ag)} {ch : List Nat} {i : Nat} (h : ch ≠ []) : meet rows (ch ++ [i]) = (meet rows ch).filter fun a => (rows.getD i []).contains a := by
  cases ch with
  | nil => exact absurd rfl h
  | cons c r => simp [meet, List.foldl_append]
theorem meet_len {rows : List (List Ag)} : ∀ ch : List Nat, (∀ x ∈ rows, x.length ≤ 100) → (meet rows ch).length ≤ 100 := by
  intro ch hr
  have base : ∀ i, (rows.getD i []).length ≤ 100 := fun i => by
    rw [List.getD_eq_getElem?_getD]
    cases h : rows[i]? with
    | none => simp
    | some x => exact hr x (List.mem_of_getElem? h)
  have key : ∀ (l : List Nat) (x : List Ag), (l.foldl (fun x i => x.filter fun a => (rows.getD i []).contains a) x).length ≤ x.length := fun l => by
    induction l with
    | nil => intro x; exact Nat.le_refl _
    | cons i l ih => intro x; exact Nat.le_trans (ih _) (List.length_filter_le _ _)
  exact Nat.le_trans (key _ _) (base _)
theorem hasAll_iff (rows : List (List Ag)) (ch : List Nat) (a : Ag) : ((ch.filter fun i => !(rows.getD i []).contains a).length == 0) = hasAll rows ch a := by
  unfold hasAll
  induction ch with
  | nil => rfl
  | cons i l ih =>
    rw [List.filter_cons, List.all_cons, ← ih]
    cases h : (rows.getD i []).contains a <;> simp

section
variable {prog : Program} {w : World} {A : Around} {E : Value → Shared → Prop} {g g' : Heap} {s s' : Shared} {Lc : Addr}
set_option maxHeartbeats 4000000 in
theorem law_p3 {m : Str → Option Value} {Rw T Rc : Addr} {rows : List (List Ag)} {r : List Ag} {own : List (Addr × Obj)} {Q : Flow → Shared → Prop} (L : Ld w g') (rm : Rm 12 A) (F : FS g (hideS [] s) (envAt w 116 Lc) [] m own g' s')
    (m1 : m (Str.ofString "rows") = some (.ref Rw)) (m2 : m (Str.ofString "told") = some (.ref T)) (m3 : m (Str.ofString "records") = some (.ref Rc)) (hR : LR g' Rw rows) (hT : LS g' T r) (hC : LE g' Rc rows) (h3 : rows.length = 3) (hz : ∀ x ∈ rows, x.length ≤ 100) (hr : r.length ≤ 100)
    (hm : ∀ n, 1 ≤ n → n < 8 → meet rows (bits n 3) = r.filter fun a => hasAll rows (bits n 3) a)
    (h : ∀ g'' s'' m' own', FS g (hideS [] s) (envAt w 116 Lc) [] m' own' g'' s'' → Q (.ret (.bool true)) s'') : wpAny (model prog w) A (execs ((bodyAt w 116).drop 8) (envAt w 116 Lc)) Q E s' := by
  unfold bodyAt; conv => (arg 3; arg 1; whnf)
  obtain ⟨as, hA, hP⟩ := hR
  obtain ⟨es, hE, hPe⟩ := hC
  obtain ⟨ts, hts, hTl⟩ := hT
  refine wpAny_execs_cons ?_
  refine for_stmtF F (n := 7) (P := fun k v => ∃ t, v = .int (1 + k) t) (fun k m own _ => m (Str.ofString "rows") = some (.ref Rw) ∧ m (Str.ofString "told") = some (.ref T) ∧ m (Str.ofString "records") = some (.ref Rc)) rfl (.inr ⟨rfl, by simp⟩) ?_
  refine callT (L.mono F.kp) rfl rfl rfl rfl rfl Boot.range (spliced_more (cInt F fun t1 s1 F _ => spliced_more (cInt F fun t2 s2 F _ => spliced_none (range2_F (n := 7) rm.hh F (by decide) (by decide) (by decide) fun g1 r1 s3 F k1 src => ?_))))
  refine ⟨g1, _, _, F, src, ⟨m1, m2, m3⟩, ?_, ?_⟩
  · intro q v p m4 own4 g2 s4 E2 hq hv kg hI F
    obtain ⟨m1, m2, m3⟩ := hI
    obtain ⟨tn, rfl⟩ := hv
    have hn1 : 1 ≤ q + 1 := by omega
    have hn8 : q + 1 < 8 := by omega
    have env1 : (1 + (q : Int)) = ((q + 1 : Nat) : Int) := by omega
    rw [env1] at F
    generalize q + 1 = nn at *
    have ld : ∀ {gg ss}, Kp g2 gg → Kp gg ss.heap → Ld w (Shared.heap ss) := fun ka kb => L.mono (((k1.trans kg).trans ka).trans kb)
    -- choice = ..
    refine wpAny_execs_cons ?_
    refine wpAny_Assign_Name ?_ ?_
    rotate_left
    · rfl
    refine comp_evalF F (n := 3) (P := fun k v => ∃ t, v = .int (0 + k) t) (J := fun k ys _ => ∃ ps : List (Nat × Tok), ys = ps.map iv ∧ ps.map (·.1) = bits nn k) rfl rfl (by decide) rfl (fun C => .inl rfl) (fun _ _ _ _ h => h) ?_
    refine callT (ld (Kp.refl _) F.kp) rfl rfl rfl rfl rfl Boot.range (spliced_more (cInt F fun t4 s9 F _ => spliced_none (range1_F (n := 3) rm.hh F (by decide) fun g3 r3 s10 F k3 src => ?_)))
    refine ⟨g3, F, src, by rw [sizeLine_eq]; decide, ⟨[], rfl, rfl⟩, fun C hC => ?_, fun D ys g4 s11 F k4 hDl hJ => ?_⟩
    · intro j v ys own g5 s12 E2 hj hPv kg5 hJ Fc
      obtain ⟨tj, rfl⟩ := hPv
      have e0 : ((0 : Int) + (j : Int)).toNat = j := by omega
      refine wpAny_tests_one (wpAny_isTrue_Compare1 ?_)
      refine wpAny_BinOp (wpAny_BinOp ?_)
      refine nmF Fc rfl (.inr rfl) rfl ?_
      refine wpAny_BinOp (cInt Fc fun t5 s13 Fc _ => ?_)
      refine nmF Fc rfl (.inl rfl) rfl ?_
      refine powI Fc (by omega) (by omega) (by decide) fun t6 s14 Fc _ => ?_
      rw [e0]
      have hp8 : (2 : Int) ^ j = 1 ∨ (2 : Int) ^ j = 2 ∨ (2 : Int) ^ j = 4 := by
        have : j = 0 ∨ j = 1 ∨ j = 2 := by omega
        rcases this with rfl | rfl | rfl <;> decide
      refine divI Fc (by rcases hp8 with h | h | h <;> rw [h] <;> decide) (by rcases hp8 with h | h | h <;> rw [h] <;> decide) fun t7 s15 Fc _ => cInt Fc fun t8 s16 Fc _ => modI Fc (by decide) fun t9 s17 Fc _ => cInt Fc fun t10 s18 Fc _ => PyProof.Rows.eq_int (wpAny_truthy_bool ?_)
      rw [fdiv_nat]
      obtain ⟨ps, rfl, hps⟩ := hJ
      have eb : (((nn / 2 ^ j % 2 : Nat) : Int) == 1) = (nn / 2 ^ j % 2 == 1) := by
        by_cases hb : nn / 2 ^ j % 2 = 1
        · rw [hb]; rfl
        · rw [beq_eq_false_iff_ne.mpr hb]; exact beq_eq_false_iff_ne.mpr fun q => hb (by omega)
      rw [eb]
      have key := bits_step nn j
      cases hb : (nn / 2 ^ j % 2 == 1) with
      | true =>
        rw [hb, if_pos rfl] at key
        rw [if_pos rfl]
        refine nmF Fc rfl (.inl rfl) rfl ⟨g5, Fc, Kp.refl _, ps ++ [(j, tj)], by simp, ?_⟩
        rw [key, List.map_append, hps]; rfl
      | false =>
        rw [hb, if_neg (by decide)] at key
        rw [if_neg (by decide)]
        exact ⟨g5, Fc, Kp.refl _, ps, rfl, by rw [key, List.append_nil]; exact hps⟩
    obtain ⟨cs, rfl, hcs⟩ := hJ
    refine stF F rfl (.inr ⟨rfl, by simp⟩) fun s12 F => ?_
    have kg4 := k3.trans k4
    generalize hch : bits nn 3 = ch at *
    have hlt : ∀ i ∈ ch, i < 3 := fun i hi => bits_lt (hch ▸ hi)
    have hcl : cs.length = ch.length := by rw [← hcs, List.length_map]
    have hcz : ch.length ≤ 3 := by rw [← hch]; unfold bits; exact Nat.le_trans (List.length_filter_le _ _) (by simp)
    have srcC : ∀ {gg : Heap} {ss : Shared} {AA : Around}, Kp g4 gg → Kp gg (Shared.heap ss) → AA.handled = none → Src prog w AA gg ss (.ref D) ch.length (fun k v => ∃ i t, ch[k]? = some i ∧ v = .int (i : Nat) t) := fun ka kb hh => (Src.list hh kb (hDl.mono ka)).imp (by rw [List.length_map, hcl]) fun i v hv => by
      rw [List.getElem?_map] at hv
      cases hp : cs[i]? with
      | none => rw [hp] at hv; cases hv
      | some pp =>
        rw [hp] at hv
        exact ⟨pp.1, pp.2, by rw [← hcs, List.getElem?_map, hp]; rfl, (Option.some.inj hv).symm⟩
    -- fold = ..
    refine wpAny_execs_cons ?_
    refine wpAny_Assign_Name ?_ ?_
    rotate_left
    · rfl
    refine Attribute_any_ (callG (ld kg4 F.kp) rfl rfl rfl rfl rfl (spliced_more (glF (ld kg4 F.kp) rfl rfl rfl rfl (spliced_more ?_))))
    refine comp_evalF F (n := ch.length) (P := fun k v => ∃ i t, ch[k]? = some i ∧ v = .int (i : Nat) t) (J := fun k ys g' => ∃ bs : List Addr, ys = bs.map Value.ref ∧ Pw (IsEnt g') bs ((ch.take k).map fun i => rows.getD i [])) rfl rfl (by decide) rfl (fun C => .inl rfl)
      (fun ys g g' kg h => let ⟨bs, e, p⟩ := h; ⟨bs, e, p.mono fun _ _ h => h.mono kg⟩) (nmF F rfl (.inr rfl) rfl ⟨g4, F, srcC (Kp.refl _) F.kp rm.hh, by rw [sizeLine_eq]; omega, ⟨[], rfl, Pw.nil _⟩, fun C hC => ?_, fun D2 ys2 g6 s13 F k6 hD2 hJ2 => ?_⟩)
    · intro j v ys own g5 s13 E2 hj hPv kg5 hJ Fc
      obtain ⟨i, ti, hi, rfl⟩ := hPv
      have hi3 := hlt i (List.mem_of_getElem? hi)
      have hx : rows[i]? = some (rows.getD i []) := by rw [List.getD_eq_getElem?_getD, List.getElem?_eq_getElem (by omega)]; rfl
      obtain ⟨e, he, hent⟩ := hPe.at' hx
      have kk := ((k1.trans kg).trans kg4).trans kg5
      refine wpAny_tests_nil ?_
      rw [if_pos rfl]
      refine Subscript_ (nmF Fc rfl (.inr rfl) m3 (nmF Fc rfl (.inl rfl) rfl (item_G ((hE.mono kk).mono Fc.kp) (by omega) (v := .ref e) (by rw [Int.toNat_natCast, List.getElem?_map, he]; rfl) ?_)))
      obtain ⟨bs, rfl, hbs⟩ := hJ
      refine ⟨g5, Fc, Kp.refl _, bs ++ [e], by simp, ?_⟩
      rw [List.take_add_one, hi, List.map_append]
      exact hbs.snoc (hent.mono kk)
    obtain ⟨bs, rfl, hbs⟩ := hJ2
    rw [List.take_length] at hbs
    have kg6 := kg4.trans k6
    have hbl : bs.length = ch.length := by rw [hbs.1, List.length_map]
    have hchne : ch ≠ [] := hch ▸ bits_pos nn hn8 hn1
    obtain ⟨c0, cr, hc0⟩ : ∃ c0 cr, ch = c0 :: cr := by
      cases ch with
      | nil => exact absurd rfl hchne
      | cons a b => exact ⟨a, b, rfl⟩
    obtain ⟨b0, hb0, hent0⟩ := hbs.at' (i := 0) (x := rows.getD c0 []) (by rw [hc0]; rfl)
    refine spliced_none ⟨(ld kg6 F.kp).X, ?_⟩
    refine reduce2_ok (N := 8) (Inv := fun k v g' => 1 ≤ k ∧ ∃ e, v = .ref e ∧ IsEnt g' e (meet rows (ch.take k))) (L.mono ((k1.trans kg).trans kg6)) F.kp (rm.less (by omega)) rfl hD2 (v0 := .ref b0) (by rw [List.getElem?_map, hb0]; rfl) ⟨Nat.le_refl _, b0, rfl, by rw [hc0]; exact hent0⟩ ?_ fun g7 s14 rr G7 hI => ?_
    · intro A' j v u g7 s14 Q' E' rm' kg7 kp7 hu hI hQ
      obtain ⟨hj1, e, rfl, he⟩ := hI
      rw [List.getElem?_map] at hu
      cases hb : bs[j]? with
      | none => rw [hb] at hu; cases hu
      | some b =>
        rw [hb] at hu
        obtain rfl := Option.some.inj hu
        obtain ⟨x, hx, hent⟩ := hbs.at hb
        rw [List.getElem?_map] at hx
        cases hcj : ch[j]? with
        | none => rw [hcj] at hx; cases hx
        | some cj =>
          rw [hcj] at hx
          obtain rfl := Option.some.inj hx
          have hxz : (rows.getD cj []).length ≤ 1000 := by
            rw [List.getD_eq_getElem?_getD]
            cases h9 : rows[cj]? with
            | none => simp
            | some x => exact Nat.le_trans (hz x (List.mem_of_getElem? h9)) (by omega)
          refine merge_ok ((L.mono ((k1.trans kg).trans kg6)).mono kg7) kp7 rm' he (hent.mono kg7) (Nat.le_trans (meet_len _ hz) (by omega)) hxz fun g8 s15 e8 G8 h8 => hQ g8 s15 _ G8 ⟨by omega, e8, rfl, ?_⟩
          have ht : ch.take j ≠ [] := by
            rw [hc0]
            cases j with
            | zero => omega
            | succ j => simp
          rw [List.take_add_one, hcj]
          exact (meet_snoc (i := cj) ht) ▸ h8
    · obtain ⟨_, e, rfl, dx, od, md, kd, l1, l2, q1, q2, q3, q4, q5, q6⟩ := hI
      have F := F.on G7
      rw [List.length_map, hbl, List.take_length] at q5
      refine getAttr_I ((L.mono (((k1.trans kg).trans kg6).trans G7.gg)).X.keeps F.kp) (F.kp _ _ q1) (F.kp _ _ q2) q3 q4.ua (fun t15 => ?_)
      have F := F.tok t15
      refine stF F rfl (.inl rfl) fun s15 F => ?_
      have kg7 := kg6.trans G7.gg
      have k47 := k6.trans G7.gg
      -- the comparison
      refine wpAny_execs_cons ?_
      refine wpAny_If (wpAny_isTrue_Compare1 (nmF F rfl (.inl rfl) rfl ?_))
      have hTl7 := hTl.mono ((k1.trans kg).trans kg7)
      have htl : ts.length = r.length := by rw [← hts, List.length_map]
      refine comp_evalF F (n := r.length) (P := fun k v => ∃ a t, r[k]? = some a ∧ v = .str (nm a) t) (J := fun k ys _ => ∃ qs : List (Ag × Tok), ys = qs.map sv ∧ qs.map (·.1) = (r.take k).filter fun a => hasAll rows ch a) rfl rfl (by decide) rfl (fun C => .inr ⟨rfl, by decide⟩) (fun _ _ _ _ h => h)
        (nmF F rfl (.inl rfl) m2 ⟨g7, F, (Src.list rm.hh F.kp hTl7).imp (by rw [List.length_map, htl]) (fun i v hv => ?_), by rw [sizeLine_eq]; omega, ⟨[], rfl, rfl⟩, fun C hC => ?_, fun D3 ys3 g8 s16 F k8 hD3 hJ3 => ?_⟩)
      · rw [List.getElem?_map] at hv
        cases hp : ts[i]? with
        | none => rw [hp] at hv; cases hv
        | some pp =>
          rw [hp] at hv
          exact ⟨pp.1, pp.2, by rw [← hts, List.getElem?_map, hp]; rfl, (Option.some.inj hv).symm⟩
      · intro j v ys own g9 s17 E3 hj hPv kg9 hJ Fc
        obtain ⟨a, ta, ha, rfl⟩ := hPv
        refine wpAny_tests_one (wpAny_isTrue_Compare1 ?_)
        refine comp_evalF Fc (n := ch.length) (P := fun k v => ∃ i t, ch[k]? = some i ∧ v = .int (i : Nat) t) (J := fun k ys _ => ys.length = ((ch.take k).filter fun i => !(rows.getD i []).contains a).length) rfl rfl (by decide) rfl (fun C => .inl rfl) (fun _ _ _ _ h => h)
          (nmF Fc rfl (.inr rfl) rfl ⟨g9, Fc, srcC (k47.trans kg9) Fc.kp rm.hh, by rw [sizeLine_eq]; omega, rfl, fun C2 hC2 => ?_, fun D4 ys4 g10 s18 Fc k10 hD4 hJ4 => ?_⟩)
        · intro jj v ys own g11 s19 E4 hjj hPv kg11 hJ4 Fd
          obtain ⟨i, ti, hi, rfl⟩ := hPv
          have hi3 := hlt i (List.mem_of_getElem? hi)
          have hx : rows[i]? = some (rows.getD i []) := by rw [List.getD_eq_getElem?_getD, List.getElem?_eq_getElem (by omega)]; rfl
          obtain ⟨b, hb, ps, hps, hl2⟩ := hP.at' hx
          have kk := ((((k1.trans kg).trans kg7).trans kg9).trans kg11)
          refine wpAny_tests_one (wpAny_isTrue_Compare1 ?_)
          refine nmF Fd rfl (.inr rfl) rfl ?_
          refine Subscript_ (nmF Fd rfl (.inr rfl) m1 (nmF Fd rfl (.inl rfl) rfl (item_G ((hA.mono kk).mono Fd.kp) (by omega) (v := .ref b) (by rw [Int.toNat_natCast, List.getElem?_map, hb]; rfl) ?_)))
          refine notIn_G ((hl2.mono kk).mono Fd.kp) (wpAny_truthy_bool ?_)
          rw [hps]
          have key : ((ch.take (jj + 1)).filter fun i => !(rows.getD i []).contains a) = ((ch.take jj).filter fun i => !(rows.getD i []).contains a) ++ (if !(rows.getD i []).contains a then [i] else []) := by
            rw [List.take_add_one, hi, List.filter_append]
            simp only [Option.toList_some, List.filter_cons, List.filter_nil]
          cases hb2 : (!(rows.getD i []).contains a) with
          | true =>
            rw [if_pos rfl]
            refine nmF Fd rfl (.inl rfl) rfl ⟨g11, Fd, Kp.refl _, ?_⟩
            show (ys ++ [_]).length = _
            rw [key, hb2, List.length_append, List.length_append, hJ4]; rfl
          | false =>
            rw [if_neg (by decide)]
            refine ⟨g11, Fd, Kp.refl _, ?_⟩
            show ys.length = _
            rw [key, hb2, hJ4]; simp
        have hJ4 : ys4.length = ((ch.take ch.length).filter fun i => !(rows.getD i []).contains a).length := hJ4
        rw [List.take_length] at hJ4
        refine List_ (spliced_none (newList_G Fc.kp fun g12 c12 s20 G12 hc12 => ?_))
        have Fc := Fc.on G12
        have hal := hasAll_iff rows ch a
        rw [← hJ4] at hal
        obtain ⟨qs, rfl, hqs⟩ := hJ
        have key : ((r.take (j + 1)).filter fun a => hasAll rows ch a) = ((r.take j).filter fun a => hasAll rows ch a) ++ (if hasAll rows ch a then [a] else []) := by
          rw [List.take_add_one, ha, List.filter_append]
          simp only [Option.toList_some, List.filter_cons, List.filter_nil]
        cases hy : ys4 with
        | nil =>
          rw [hy] at hal hD4
          refine RcAt.lists (e := fun _ => true) ((hD4.mono G12.gg).mono Fc.kp).isList (hc12.mono Fc.kp).isList rfl rm.units (fun j h1 h2 => by simp at h2) prog w _ _ (wpAny_truthy_bool ?_)
          rw [show (List.range ([] : List Value).toArray.size).all (fun _ => true) = true by rfl, if_pos rfl]
          have hal : hasAll rows ch a = true := hal.symm
          refine nmF Fc rfl (.inr rfl) rfl ⟨g12, Fc, k10.trans G12.gg, qs ++ [(a, ta)], by simp, ?_⟩
          rw [key, hal, List.map_append, hqs]; rfl
        | cons y1 yr =>
          rw [hy] at hal hD4
          refine RcAt.lists_lengths ((hD4.mono G12.gg).mono Fc.kp).isList (hc12.mono Fc.kp).isList (by simp) rm.units prog w _ _ (wpAny_truthy_bool ?_)
          rw [if_neg (by decide)]
          have hal : hasAll rows ch a = false := by rw [← hal]; rfl
          refine ⟨g12, Fc, k10.trans G12.gg, qs, rfl, ?_⟩
          rw [key, hal, hqs]; simp
      obtain ⟨qs, rfl, hqs⟩ := hJ3
      rw [List.take_length] at hqs
      refine PyProof.Rows.ne_dataH ((q5.mono k8).mono F.kp).reads (LS.reads (g := s16.heap) (xs := r.filter fun a => hasAll rows ch a) ⟨qs, hqs, hD3.mono F.kp⟩) (shaped_ag _) (shaped_ag _) (by have := rm.un; omega) (wpAny_truthy_bool ?_)
      rw [eqv_ag, decide_eq_true (by rw [← hch]; exact hm nn hn1 hn8), if_neg (by decide)]
      refine wpAny_execs_nil (wpAny_execs_nil ⟨_, _, g8, F, kg7.trans k8, m1, m2, m3⟩)
  · intro m4 own4 g2 s4 E2 kg hI F
    refine wpAny_execs_nil (wpAny_execs_cons (wpAny_Return_some (cBool ?_)))
    exact h g2 _ _ _ F
end
end Mine
end

section
set_option maxRecDepth 100000
set_option autoImplicit false
set_option linter.unusedVariables false
set_option linter.unusedSimpArgs false
open PySem PySem.W PyProof.Rows
namespace Mine
open PySem.SeqAt
open PyProof.Rows.TI (Frs SameUp)

theorem wAll_sz : ∀ k < 5, (wAll k).length ≤ 1000 ∧ ∀ x ∈ wAll k, x.length ≤ 1000 := by decide +kernel
theorem three_of : ∀ xss : List (List Ag), xss.length = 3 → (∀ x ∈ xss, ∃ a, x = [a]) → ∃ a b c, xss = [[a], [b], [c]]
  | [x, y, z], _, h => by
    obtain ⟨a, rfl⟩ := h x (by simp)
    obtain ⟨b, rfl⟩ := h y (by simp)
    obtain ⟨c, rfl⟩ := h z (by simp)
    exact ⟨a, b, c, rfl⟩
theorem pool_at {p0 p1 p2 p3 : Tok} {j : Nat} {u : Value} (h : ([((0 : Ag), p0), (1, p1), (2, p2), (3, p3)].map sv)[j]? = some u) : j < 4 ∧ ∃ t, u = .str (nm (([0, 1, 2, 3] : List Ag).getD j 0)) t := by
  match j with
  | 0 => exact ⟨by decide, p0, (Option.some.inj h).symm⟩
  | 1 => exact ⟨by decide, p1, (Option.some.inj h).symm⟩
  | 2 => exact ⟨by decide, p2, (Option.some.inj h).symm⟩
  | 3 => exact ⟨by decide, p3, (Option.some.inj h).symm⟩
  | n + 4 => simp at h

section
variable {prog : Program} {w : World} {A : Around} {E : Value → Shared → Prop} {g g' : Heap} {s s' : Shared} {Lc : Addr}
set_option maxHeartbeats 4000000 in
theorem law_p2 {N : Nat} {Ok : List (List Ag) → List (List Ag) → Prop} {m : Str → Option Value} {Po Su : Addr} {p0 p1 p2 p3 : Tok} {sums : List Value} {Q : Flow → Shared → Prop} (PL : Plain N Ok) (hN : 200 < N) (L : Ld w g') (rm : Rm 12 A) (hfr : A.frames = some [envAt w 116 Lc]) (F : FS g (hideS [] s) (envAt w 116 Lc) [] m [] g' s')
    (m1 : m (Str.ofString "pool") = some (.ref Po)) (m2 : m (Str.ofString "sums") = some (.ref Su)) (hPo : LL g' Po ([((0 : Ag), p0), (1, p1), (2, p2), (3, p3)].map sv)) (hSu : LL g' Su sums) (hsl : sums.length = 10) (hsi : ∀ v ∈ sums, isInt v)
    (h : ∀ g'' s'' m' own', FS g (hideS [] s) (envAt w 116 Lc) [] m' own' g'' s'' → Q (.ret (.bool true)) s'') : wpAny (model prog w) A (execs ((bodyAt w 116).drop 3) (envAt w 116 Lc)) Q E s' := by
  unfold bodyAt; conv => (arg 3; arg 1; whnf)
  have ld : ∀ {gg ss}, Kp g' gg → Kp gg (Shared.heap ss) → Ld w (Shared.heap ss) := fun ka kb => L.mono (ka.trans kb)
  -- orders = ..
  refine wpAny_execs_cons ?_
  refine comp_assignX F rfl rfl (by decide) rfl (fun C => .inl rfl) rfl rfl ?_
  refine callG (ld (Kp.refl _) F.kp) rfl rfl rfl rfl rfl (spliced_more (glF (ld (Kp.refl _) F.kp) rfl rfl rfl rfl (spliced_more (nmF F rfl (.inr rfl) m1 (spliced_more ?_)))))
  refine List_ (spliced_more (List_ (spliced_none (newList_G F.kp fun g1 e1 s1 G1 he1 => ?_))))
  have F := F.on G1
  refine spliced_none (newList_G F.kp fun g2 c2 s2 G2 hc2 => ?_)
  have F := F.on G2
  have kg2 := G1.gg.trans G2.gg
  refine spliced_none ⟨(ld kg2 F.kp).X, ?_⟩
  obtain ⟨nc2, hc2'⟩ := id hc2
  refine reduce3_ok (N := 6) (Inv := fun k v g' => ∃ c, v = .ref c ∧ LR g' c (wAll k)) (L.mono kg2) F.kp (rm.less (by omega)) rfl (hPo.mono kg2) hc2' rfl ⟨c2, rfl, [e1], hc2, Pw.one ⟨[], rfl, he1.mono G2.gg⟩⟩ ?_ fun g3 s3 rr G3 hI => ?_
  · intro A' k v u gg ss Q' E' rm' kg kp hu hI hQ
    obtain ⟨c, rfl, hc⟩ := hI
    obtain ⟨hk4, t, rfl⟩ := pool_at hu
    obtain ⟨z1, z2⟩ := wAll_sz k (by omega)
    obtain ⟨z3, _⟩ := wAll_sz (k + 1) (by omega)
    exact widened_ok ((L.mono kg2).mono kg) kp (rm'.less (by omega)) hc z1 z2 z3 fun g4 s4 c4 G4 h4 => hQ g4 s4 _ G4 ⟨c4, rfl, h4⟩
  obtain ⟨c3', rfl, as, hA, hP⟩ := hI
  have hlen4 : ([((0 : Ag), p0), (1, p1), (2, p2), (3, p3)].map sv).length = 4 := rfl
  rw [hlen4] at hP
  have F := F.on G3
  have kg3 := kg2.trans G3.gg
  obtain ⟨z1, z2⟩ := wAll_sz 4 (by omega)
  refine ⟨g3, (as.map Value.ref).length, fun k v => (as.map Value.ref)[k]? = some v, fun k ys g' => ∃ es : List Addr, ys = es.map Value.ref ∧ Pw (IsEnt g') es ((wAll 4).take k), F, Src.list rm.hh F.kp hA, by rw [sizeLine_eq, List.length_map, hP.1]; omega, ⟨[], rfl, Pw.nil _⟩,
    (fun ys g g' kg h => let ⟨bs, e, p⟩ := h; ⟨bs, e, p.mono fun _ _ h => h.mono kg⟩), fun C hC => ?_, fun O ys g4 s4 F k4 hO hJ => ?_⟩
  · intro i v ys own g5 s5 E2 hi hPv kg5 hJ Fc
    rw [List.length_map] at hi
    rw [List.getElem?_map, List.getElem?_eq_getElem hi] at hPv
    have hPv : Value.ref as[i] = v := by simpa using hPv
    subst hPv
    obtain ⟨x, hx, hls⟩ := hP.at (List.getElem?_eq_getElem hi)
    refine wpAny_tests_nil ?_
    rw [if_pos rfl]
    have kk := kg3.trans kg5
    refine callG (ld kk Fc.kp) rfl rfl rfl rfl rfl (spliced_more (nmF Fc rfl (.inl rfl) rfl (spliced_none ⟨(ld kk Fc.kp).X, ?_⟩)))
    refine record_ok (L.mono kk) Fc.kp (rm.less (by omega)) (hls.mono kg5) (z2 x (List.mem_of_getElem? hx)) fun g6 s6 e6 G6 h6 => ?_
    obtain ⟨bs, rfl, hbs⟩ := hJ
    refine ⟨g6, Fc.on G6, G6.gg, bs ++ [e6], by simp, ?_⟩
    rw [List.take_add_one, hx]
    exact (hbs.mono fun _ _ h => h.mono G6.gg).snoc h6
  obtain ⟨es, rfl, hes⟩ := hJ
  rw [List.length_map, hP.1, List.take_length] at hes
  have kg4 := kg3.trans k4
  -- rows = ..
  refine wpAny_execs_cons ?_
  refine wpAny_Assign_Name ?_ ?_
  rotate_left
  · rfl
  refine callG (ld kg4 F.kp) rfl rfl rfl rfl rfl (spliced_more ?_)
  refine comp_evalX F rfl rfl (by decide) rfl (fun C => .inl rfl) ?_
  refine slice_N (nmF F rfl (.inl rfl) m2 (wpAny_evalPart_none (wpAny_evalPart_some (cInt F fun t5 s5 F _ => ?_)))) (fun _ _ => rfl)
  refine ⟨g4, Su, sums, none, some 3, rfl, F.kp, (hSu.mono kg4).mono F.kp, by rw [sizeLine_eq]; omega, .none, .int _ _, fun g5 c5 s6 G5 hn5 hc5 => ?_⟩
  rw [show (3 : Int) = ((3 : Nat) : Int) from rfl, slicePick_upto _ 3 (by simp; omega)] at hc5
  have F := F.on G5
  have hc5' : LL g5 c5 (sums.take 3) := ⟨0, by simpa using hc5⟩
  refine ⟨g5, (sums.take 3).length, fun k v => (sums.take 3)[k]? = some v, fun k ys g' => ∃ (bs : List Addr) (xss : List (List Ag)), ys = bs.map Value.ref ∧ Pw (LS g') bs xss ∧ xss.length = k ∧ ∀ x ∈ xss, ∃ a, x = [a], F, Src.list rm.hh F.kp hc5', by rw [sizeLine_eq]; simp; omega, ⟨[], [], rfl, Pw.nil _, rfl, fun _ h => (nomatch h)⟩,
    (fun ys g g' kg h => let ⟨bs, xss, e, p, q⟩ := h; ⟨bs, xss, e, p.mono fun _ _ h => h.mono kg, q⟩), fun C hC => ?_, fun Rw ys g6 s7 F k6 hRw hJ => ?_⟩
  · intro i v ys own g7 s8 E2 hi hPv kg7 hJ Fc
    obtain ⟨x, tx, rfl⟩ := hsi v (List.mem_of_mem_take (List.mem_of_getElem? hPv))
    refine wpAny_tests_nil ?_
    rw [if_pos rfl]
    have kk := (kg4.trans G5.gg).trans kg7
    have f1 := Int.fmod_lt_of_pos x (b := 4) (by decide)
    have f2 := Int.fmod_nonneg_of_pos x (b := 4) (by decide)
    obtain ⟨a, ta, hta⟩ : ∃ (a : Ag) (ta : Tok), ([((0 : Ag), p0), (1, p1), (2, p2), (3, p3)].map sv)[(x.fmod 4).toNat]? = some (.str (nm a) ta) := by
      have hlt : (x.fmod 4).toNat < ([((0 : Ag), p0), (1, p1), (2, p2), (3, p3)].map sv).length := by rw [hlen4]; omega
      obtain ⟨_, t, ht⟩ := pool_at (List.getElem?_eq_getElem hlt)
      exact ⟨_, t, by rw [List.getElem?_eq_getElem hlt, ht]⟩
    refine List_ (spliced_more (Subscript_ (nmF Fc rfl (.inr rfl) m1 ?_)))
    refine wpAny_BinOp (nmF Fc rfl (.inl rfl) rfl (cInt Fc fun t9 s9 Fc _ => modI Fc (by decide) fun t10 s10 Fc _ => ?_))
    refine item_G ((hPo.mono kk).mono Fc.kp) f2 hta (spliced_none (newList_G Fc.kp fun g8 c8 s11 G8 hc8 => ?_)) (hfit := by omega)
    obtain ⟨bs, xss, rfl, hbs, hl, hq⟩ := hJ
    refine ⟨g8, Fc.on G8, G8.gg, bs ++ [c8], xss ++ [[a]], by simp, (hbs.mono fun _ _ h => h.mono G8.gg).snoc ⟨[(a, ta)], rfl, hc8⟩, by simp [hl], fun x hx => ?_⟩
    rcases List.mem_append.mp hx with hx | hx
    · exact hq x hx
    · exact ⟨a, List.mem_singleton.mp hx⟩
  obtain ⟨bs, xss, rfl, hbs, hl, hq⟩ := hJ
  rw [show (sums.take 3).length = 3 by simp; omega] at hl
  obtain ⟨a, b, c, rfl⟩ := three_of xss hl hq
  have kg6 := (kg4.trans G5.gg).trans k6
  refine spliced_more (nmF F rfl (.inl rfl) rfl (spliced_more ?_))
  refine slice_N (nmF F rfl (.inl rfl) m2 (wpAny_evalPart_some (cInt F fun t11 s11 F _ => wpAny_evalPart_none ?_))) (fun _ _ => rfl)
  refine ⟨g6, Su, sums, some 3, none, rfl, F.kp, (hSu.mono kg6).mono F.kp, by rw [sizeLine_eq]; omega, .int _ _, .none, fun g7 c7 s12 G7 hn7 hc7 => ?_⟩
  rw [show (3 : Int) = ((3 : Nat) : Int) from rfl, slicePick_from _ 3 (by simp; omega)] at hc7
  have F := F.on G7
  have hc7' : LL g7 c7 (sums.drop 3) := ⟨0, by simpa using hc7⟩
  have kg7 := kg6.trans G7.gg
  refine spliced_none ⟨(ld kg7 F.kp).X, ?_⟩
  have hOE : LE g7 O (wAll 4) := LE.mono ⟨es, hO, hes⟩ ((G5.gg.trans k6).trans G7.gg)
  refine grown_F (fr := []) (own := []) PL.okay hN F (L.mono kg7) (rm.less (by omega)) hfr trivial rfl rfl ⟨bs, hRw.mono G7.gg, hbs.mono fun _ _ h => h.mono G7.gg⟩ hOE (PL.init a b c) hc7' (fun v hv => hsi v (List.mem_of_mem_drop hv)) fun g8 s13 fr' Rr rows ords F k8 SU hR hOk => ?_
  obtain rfl : fr' = [] := by
    cases fr' with
    | nil => rfl
    | cons p q => exact False.elim SU
  have F : FS g (hideS [] s) (envAt w 116 Lc) [] _ [] g8 s13 := F
  have kg8 := kg7.trans k8
  obtain ⟨z3, z4, z5, z6⟩ := PL.okay.sz rows ords hOk
  obtain ⟨r, hr, hrz, hm⟩ := PL.told rows ords hOk
  refine stF F rfl (.inr ⟨rfl, by simp⟩) fun s14 F => ?_
  -- if rows is None
  refine wpAny_execs_cons ?_
  refine wpAny_If (wpAny_isTrue_Compare1 (nmF F rfl (.inr rfl) rfl (cNone (wpAny_is_other rfl (fun q => by cases q) (wpAny_truthy_bool ?_)))))
  rw [if_neg (by decide)]
  refine wpAny_execs_nil ?_
  -- told = ..
  refine wpAny_execs_cons ?_
  refine wpAny_Assign_Name ?_ ?_
  rotate_left
  · rfl
  refine Subscript_ (callG (ld kg8 F.kp) rfl rfl rfl rfl rfl (spliced_more (nmF F rfl (.inr rfl) rfl (spliced_none ⟨(ld kg8 F.kp).X, ?_⟩))))
  refine told_F (N := N) (fr := []) (own := []) F (L.mono kg8) (rm.less (by omega)) hfr trivial rfl rfl hR (by omega) (by omega) (by omega) fun g9 s15 fr' aT F k9 SU hTold => ?_
  obtain rfl : fr' = [] := by
    cases fr' with
    | nil => rfl
    | cons p q => exact False.elim SU
  have F : FS g (hideS [] s) (envAt w 116 Lc) [] _ [] g9 s15 := F
  rw [hr] at hTold
  obtain ⟨T, hT1, hT2⟩ := hTold
  refine cInt F fun t16 s16 F _ => item_G (hT1.mono F.kp) (by decide) (v := .ref T) rfl ?_
  refine stF F rfl (.inl rfl) fun s17 F => ?_
  have kg9 := kg8.trans k9
  -- records = ..
  refine wpAny_execs_cons ?_
  refine wpAny_Assign_Name ?_ ?_
  rotate_left
  · rfl
  obtain ⟨as9, hA9, hP9⟩ := id (hR.mono k9)
  refine comp_evalX F rfl rfl (by decide) rfl (fun C => .inl rfl) (nmF F rfl (.inr rfl) rfl ?_)
  refine ⟨g9, (as9.map Value.ref).length, fun k v => (as9.map Value.ref)[k]? = some v, fun k ys g' => ∃ es : List Addr, ys = es.map Value.ref ∧ Pw (IsEnt g') es (rows.take k), F, Src.list rm.hh F.kp hA9, by rw [sizeLine_eq, List.length_map, hP9.1]; omega, ⟨[], rfl, Pw.nil _⟩,
    (fun ys g g' kg h => let ⟨bs, e, p⟩ := h; ⟨bs, e, p.mono fun _ _ h => h.mono kg⟩), fun C hC => ?_, fun Rc ys g10 s18 F k10 hRc hJ => ?_⟩
  · intro i v ys own g11 s19 E2 hi hPv kg11 hJ Fc
    rw [List.length_map] at hi
    rw [List.getElem?_map, List.getElem?_eq_getElem hi] at hPv
    have hPv : Value.ref as9[i] = v := by simpa using hPv
    subst hPv
    obtain ⟨x, hx, hls⟩ := hP9.at (List.getElem?_eq_getElem hi)
    refine wpAny_tests_nil ?_
    rw [if_pos rfl]
    have kk := kg9.trans kg11
    refine callG (ld kk Fc.kp) rfl rfl rfl rfl rfl (spliced_more (nmF Fc rfl (.inl rfl) rfl (spliced_none ⟨(ld kk Fc.kp).X, ?_⟩)))
    refine record_ok (L.mono kk) Fc.kp (rm.less (by omega)) (hls.mono kg11) (Nat.le_trans (len_le_tot (List.mem_of_getElem? hx)) (by omega)) fun g12 s20 e12 G12 h12 => ?_
    obtain ⟨bs, rfl, hbs⟩ := hJ
    refine ⟨g12, Fc.on G12, G12.gg, bs ++ [e12], by simp, ?_⟩
    rw [List.take_add_one, hx]
    exact (hbs.mono fun _ _ h => h.mono G12.gg).snoc h12
  obtain ⟨es10, rfl, hes10⟩ := hJ
  rw [List.length_map, hP9.1, List.take_length] at hes10
  refine stF F rfl (.inr ⟨rfl, by simp⟩) fun s21 F => ?_
  exact law_p3 (L.mono (kg9.trans k10)) rm F rfl rfl rfl ((hR.mono k9).mono k10) (hT2.mono k10) ⟨es10, hRc, hes10⟩ z3 (fun x hx => Nat.le_trans (len_le_tot hx) (by omega)) hrz hm h
end
end Mine
end

section
set_option maxRecDepth 100000
set_option autoImplicit false
set_option linter.unusedVariables false
set_option linter.unusedSimpArgs false
open PySem PySem.W PyProof.Rows
namespace Mine
open PySem.SeqAt
open PyProof.Rows.TI (Frs SameUp)
local macro_rules | `(tactic| walk_at "body") => `(tactic| (unfold bodyAt; conv => (arg 3; arg 1; whnf)))
local macro_rules | `(tactic| walk_at "bind") => `(tactic| (refine BindsTo.of_eq ?_; unfold fdAt; (conv => lhs; arg 1; whnf); rfl))

section
variable {prog : Program} {w : World} {A : Around} {E : Value → Shared → Prop} {g : Heap} {s : Shared}

set_option maxHeartbeats 4000000 in
theorem law_ok {N : Nat} {Ok : List (List Ag) → List (List Ag) → Prop} {S : Addr} {vs : List Value} {R : Result → Shared → Prop} (PL : Plain N Ok) (hN : 200 < N) (L : Ld w g) (k : Kp g s.heap) (rm : Rm 13 A) (hfr : A.frames = some []) (hS : g.IsList S vs.toArray) (hvs : ∀ v ∈ vs, isInt v) (hz : vs.length ≤ 1000)
    (h : ∀ g' s', Grow g s g' s' → R (.ok (.ret (.bool true))) s') : codeAny (model prog w) A (.call (.ref 116) ⟨[.ref S], []⟩) R s := by
  refine call_at 116 (binds := [(Str.ofString "script", .ref S)]) [] L k (fun _ h => nomatch h) List.nodup_nil rm.room rfl rfl rfl (by walk_at "bind") rfl rfl rfl rfl rfl fun s₁ F => ?_
  walk_at "body"
  have rm1 : Rm 12 (A.deeper (envAt w 116 s.heap.objs.size)) := rm.deeper
  have ld : ∀ {g' s'}, Kp g g' → Kp g' s'.heap → Ld w (Shared.heap s') := fun k1 k2 => L.mono (k1.trans k2)
  -- own = ..
  refine wpAny_execs_cons ?_
  refine wpAny_Assign_Name ?_ ?_
  rotate_left
  · rfl
  refine List_ ?_
  refine spliced_more (cInt F fun o0 s2 F _ => ?_)
  refine spliced_more (cInt F fun o1 s2 F _ => ?_)
  refine spliced_more (cInt F fun o2 s2 F _ => ?_)
  refine spliced_more (cInt F fun o3 s2 F _ => ?_)
  refine spliced_more (cInt F fun o4 s2 F _ => ?_)
  refine spliced_more (cInt F fun o5 s2 F _ => ?_)
  refine spliced_more (cInt F fun o6 s2 F _ => ?_)
  refine spliced_more (cInt F fun o7 s2 F _ => ?_)
  refine spliced_more (cInt F fun o8 s2 F _ => ?_)
  refine spliced_more (cInt F fun o9 s2 F _ => ?_)
  refine spliced_none (newList_G F.kp (fun g1 Ow s3 G1 hOw => ?_) (by rw [sizeLine_eq]; exact (by decide : 10 ≤ 16777216)))
  have F := F.on G1
  refine stF F rfl (.inr ⟨rfl, by simp⟩) fun s4 F => ?_
  -- pool = ..
  refine wpAny_execs_cons ?_
  refine wpAny_Assign_Name ?_ ?_
  rotate_left
  · rfl
  refine List_ ?_
  refine spliced_more (cStr F fun p0 s5 F _ => ?_)
  refine spliced_more (cStr F fun p1 s5 F _ => ?_)
  refine spliced_more (cStr F fun p2 s5 F _ => ?_)
  refine spliced_more (cStr F fun p3 s5 F _ => ?_)
  refine spliced_none (newList_G F.kp (fun g2 Po s6 G2 hPo => ?_) (by rw [sizeLine_eq]; exact (by decide : 4 ≤ 16777216)))
  have F := F.on G2
  refine stF F rfl (.inr ⟨rfl, by simp⟩) fun s7 F => ?_
  have kg2 := G1.gg.trans G2.gg
  have hPo' : LL g2 Po ([((0 : Ag), p0), (1, p1), (2, p2), (3, p3)].map sv) := hPo
  -- sums = ..
  refine wpAny_execs_cons ?_
  refine (comp_assignF F (n := 10) (P := fun k v => ∃ t, v = .int (0 + k) t) (J := fun k ys _ => ys.length = k ∧ ∀ v ∈ ys, isInt v) rfl rfl (by decide) rfl (fun C => .inl rfl) (fun _ _ _ _ h => h) rfl rfl
    (callT (ld kg2 F.kp) rfl rfl rfl rfl rfl Boot.range (spliced_more (cInt F fun t4 s9 F _ => spliced_none (range1_F (n := 10) rm1.hh F (by decide) fun g3 r s10 F k3 src => ?_)))))
  refine ⟨g3, F, src, by rw [sizeLine_eq]; decide, ⟨rfl, fun _ h => nomatch h⟩, fun C hC => ?_, fun Su sums g4 s11 F k4 hSu hJ => ?_⟩
  · intro j v ys own g5 s12 E2 hj hPv kg5 hJ Fc
    obtain ⟨tj, rfl⟩ := hPv
    refine wpAny_tests_nil ?_
    rw [if_pos rfl]
    have kk := k3.trans kg5
    have e0 : ((0 : Int) + (j : Int)).toNat = j := by omega
    obtain ⟨i0, ti, hoi⟩ := own_at o0 o1 o2 o3 o4 o5 o6 o7 o8 o9 j hj
    refine wpAny_BinOp (Subscript_ (nmF Fc rfl (.inr rfl) rfl (nmF Fc rfl (.inl rfl) rfl (item_G (((hOw.mono G2.gg).mono kk).mono Fc.kp) (by omega) (v := .int i0 ti) (by rw [e0]; exact hoi) ?_))))
    refine callB (ld (kg2.trans kk) Fc.kp) rfl rfl rfl rfl rfl Boot.sum (spliced_more (slice3_N (nmF Fc rfl (.inr rfl) rfl (wpAny_evalPart_some (nmF Fc rfl (.inl rfl) rfl (wpAny_evalPart_none (wpAny_evalPart_some (cInt Fc fun t6 s13 Fc _ => ?_))))))))
    refine ⟨g5, S, vs, some (0 + (j : Int)), none, some 10, rfl, Fc.kp, isl (isl hS (kg2.trans kk)) Fc.kp, by rw [sizeLine_eq]; omega, .int _ _, .none, .int _ _, by decide, .inl (by with_unfolding_all rfl), fun g6 c6 s14 G6 hc6 => spliced_none ?_⟩
    have Fc := Fc.on G6
    refine sumF rm1.hh Fc (hc6.mono Fc.kp) (fun v hv => hvs v (by simpa using slicePick_mem hv)) fun n7 t7 s15 Fc => addI Fc fun t8 s16 Fc _ => ?_
    refine ⟨g6, Fc, G6.gg, by rw [List.length_append, hJ.1]; rfl, fun v hv => ?_⟩
    rcases List.mem_append.mp hv with hv | hv
    · exact hJ.2 v hv
    · obtain rfl := List.mem_singleton.mp hv
      exact ⟨_, _, rfl⟩
  have kg4 := (kg2.trans k3).trans k4
  exact law_p2 PL hN (L.mono kg4) rm1 (Around.frames_deeper hfr) F rfl rfl (hPo'.mono (k3.trans k4)) hSu hJ.1 hJ.2 fun g'' s'' m' own' F' => h g'' s'' F'.ret.toGrow
end
end Mine
end

section
set_option maxRecDepth 100000
set_option autoImplicit false
set_option linter.unusedVariables false
set_option linter.unusedSimpArgs false
namespace Mine
/-! the plain law -/
abbrev ne (s : List Ag) : Bool := !s.isEmpty
theorem c3_filter (n : Nat) (xss : List (List Ag)) : c3 n (xss.filter fun s => !s.isEmpty) = c3 n xss := by
  cases n with
  | zero => rfl
  | succ n => simp only [c3, List.filter_filter, Bool.and_self]
theorem filter_map_step (c : Ag) : ∀ xss : List (List Ag), ((xss.filter fun s => !s.isEmpty).map (step c)).filter (fun s => !s.isEmpty) = (xss.map (step c)).filter fun s => !s.isEmpty
  | [] => rfl
  | x :: r => by
    have ih := filter_map_step c r
    cases x with
    | nil => simpa [step] using ih
    | cons a b => simp only [List.filter_cons, List.isEmpty_cons, Bool.not_false, if_true, List.map_cons, ih]
theorem heads_filter : ∀ xss : List (List Ag), (xss.filter fun s => !s.isEmpty).filterMap List.head? = xss.filterMap List.head?
  | [] => rfl
  | x :: r => by
    cases x with
    | nil => simp only [List.filter_cons, List.isEmpty_nil, Bool.not_true, Bool.false_eq_true, if_false, List.filterMap_cons, List.head?_nil]; exact heads_filter r
    | cons a b => simp [List.filter_cons, heads_filter r]
theorem rej_filter (c : Ag) : ∀ xss : List (List Ag), rej (xss.filter fun s => !s.isEmpty) c = rej xss c
  | [] => rfl
  | x :: r => by
    have ih := rej_filter c r
    unfold rej at ih ⊢
    cases x with
    | nil => simpa using ih
    | cons a b => simp only [List.filter_cons, List.isEmpty_cons, Bool.not_false, if_true, List.any_cons, ih]
theorem pick_filter (xss : List (List Ag)) : pick (xss.filter fun s => !s.isEmpty) = pick xss := by
  unfold pick
  rw [heads_filter]
  congr 1
  funext c
  rw [rej_filter]
theorem filter_empty : ∀ xss : List (List Ag), (xss.filter fun s => !s.isEmpty).isEmpty = xss.all fun s => s.isEmpty
  | [] => rfl
  | x :: r => by
    cases x with
    | nil => simpa using filter_empty r
    | cons a b => simp
theorem c3_succ (n : Nat) (xss : List (List Ag)) : c3 (n + 1) xss = if (xss.all fun s => s.isEmpty) = true then some [] else match pick xss with | none => none | some c => (c3 n (xss.map (step c))).map (c :: ·) := by
  rw [c3, filter_empty, pick_filter]
  split
  · rfl
  · cases pick xss with
    | none => rfl
    | some c =>
      simp only
      rw [← c3_filter n ((xss.filter fun s => !s.isEmpty).map (step c)), filter_map_step, c3_filter]

structure Good (rows : List (List Ag)) (o : List Ag) : Prop where
  nd : o.Nodup
  fit : ∀ row ∈ rows, (o.filter fun x => row.contains x) = row
theorem Good.mem {rows : List (List Ag)} {o : List Ag} (G : Good rows o) {row : List Ag} (h : row ∈ rows) {a : Ag} (ha : a ∈ row) : a ∈ o := by
  rw [← G.fit row h] at ha; exact (List.mem_filter.mp ha).1

theorem pick_free {rows : List (List Ag)} {c : Ag} (h : pick rows = some c) : ∀ row ∈ rows, c ∉ row.tail := by
  have := List.find?_some h
  intro row hr hc
  have h2 : rej rows c = true := by
    unfold rej; rw [List.any_eq_true]; exact ⟨row, hr, List.contains_iff_mem.mpr hc⟩
  rw [h2] at this; simp at this
theorem step_cases {row : List Ag} {c : Ag} (h : c ∉ row.tail) : (∃ tl, row = c :: tl ∧ c ∉ tl ∧ step c row = tl) ∨ (c ∉ row ∧ step c row = row) := by
  cases row with
  | nil => exact .inr ⟨by simp, rfl⟩
  | cons x tl =>
    by_cases hx : x = c
    · subst hx; exact .inl ⟨tl, rfl, h, by simp [step]⟩
    · refine .inr ⟨fun q => ?_, by simp [step, hx]⟩
      rcases List.mem_cons.mp q with q | q
      · exact hx q.symm
      · exact h q
theorem filter_ne {l : List Ag} {c : Ag} (h : c ∉ l) : (l.filter fun x => decide (x ≠ c)) = l := by
  rw [List.filter_eq_self]
  intro a ha
  have : a ≠ c := fun q => h (q ▸ ha)
  simp [this]
theorem good_step {rows : List (List Ag)} {o : List Ag} {c : Ag} (G : Good rows o) (h : pick rows = some c) : Good (rows.map (step c)) (o.filter fun x => decide (x ≠ c)) := by
  refine ⟨G.nd.filter _, fun row' hr' => ?_⟩
  obtain ⟨row, hr, rfl⟩ := List.mem_map.mp hr'
  have hf := G.fit row hr
  rcases step_cases (pick_free h row hr) with ⟨tl, rfl, hc, e⟩ | ⟨hc, e⟩
  · rw [e, List.filter_filter]
    have e1 : (o.filter fun x => (tl.contains x && decide (x ≠ c))) = (o.filter fun x => (c :: tl).contains x).filter fun x => decide (x ≠ c) := by
      rw [List.filter_filter]
      apply List.filter_congr
      intro a _
      by_cases ha : a = c
      · simp [ha]
      · simp [ha]
    rw [e1, hf]
    simp only [List.filter_cons, ne_eq, not_true, decide_false, Bool.false_eq_true, if_false]
    exact filter_ne hc
  · rw [e, List.filter_filter]
    have e1 : (o.filter fun x => (row.contains x && decide (x ≠ c))) = (o.filter fun x => row.contains x).filter fun x => decide (x ≠ c) := by
      rw [List.filter_filter]
      apply List.filter_congr
      intro a _
      rw [Bool.and_comm]
    rw [e1, hf]
    exact filter_ne hc

/-- the first agent of an order that is in a row is free -/
theorem first_free {rows : List (List Ag)} {pre post : List Ag} {x : Ag} (G : Good rows (pre ++ x :: post)) (hp : ∀ a ∈ pre, ∀ row ∈ rows, a ∉ row) : ∀ row ∈ rows, x ∉ row.tail ∧ (x ∈ row → row.head? = some x) := fun row hr => by
  have hf := G.fit row hr
  have nd := G.nd
  rw [List.nodup_append, List.nodup_cons] at nd
  rw [List.filter_append] at hf
  have e1 : (pre.filter fun a => row.contains a) = [] := by
    rw [List.filter_eq_nil_iff]
    intro a ha q
    exact hp a ha row hr (List.contains_iff_mem.mp q)
  rw [e1, List.nil_append, List.filter_cons] at hf
  by_cases hx : x ∈ row
  · rw [if_pos (List.contains_iff_mem.mpr hx)] at hf
    rw [← hf]
    exact ⟨fun q => nd.2.1.1 (List.mem_filter.mp q).1, fun _ => rfl⟩
  · exact ⟨fun q => hx (List.mem_of_mem_tail q), fun q => absurd q hx⟩
theorem rej_false {rows : List (List Ag)} {x : Ag} (h : ∀ row ∈ rows, x ∉ row.tail) : rej rows x = false := by
  unfold rej; rw [List.any_eq_false]
  intro row hr q
  exact h row hr (List.contains_iff_mem.mp q)
theorem exists_pick {rows : List (List Ag)} {o : List Ag} (G : Good rows o) (h : (rows.all fun s => s.isEmpty) = false) : pick rows ≠ none := by
  obtain ⟨row, hr, hne⟩ : ∃ row ∈ rows, row ≠ [] := by
    rw [List.all_eq_false] at h
    obtain ⟨row, hr, hh⟩ := h
    exact ⟨row, hr, fun q => hh (by simp [q])⟩
  obtain ⟨a, ha⟩ := List.exists_mem_of_ne_nil row hne
  cases hf : o.find? (fun a => rows.any fun r => r.contains a) with
  | none =>
    rw [List.find?_eq_none] at hf
    have h1 : (rows.any fun r => r.contains a) = true := List.any_eq_true.mpr ⟨row, hr, List.contains_iff_mem.mpr ha⟩
    exact absurd h1 (hf a (G.mem hr ha))
  | some x =>
    obtain ⟨hx, pre, post, rfl, hp⟩ := List.find?_eq_some_iff_append.mp hf
    have hfr := first_free G fun b hb r hr q => by
      have := hp b hb
      rw [Bool.not_eq_true', List.any_eq_false] at this
      exact this r hr (List.contains_iff_mem.mpr q)
    obtain ⟨r0, hr0, hx0⟩ := List.any_eq_true.mp hx
    have hh := (hfr r0 hr0).2 (List.contains_iff_mem.mp hx0)
    intro hn
    unfold pick at hn
    rw [List.find?_eq_none] at hn
    have := hn x (List.mem_filterMap.mpr ⟨r0, hr0, hh⟩)
    rw [rej_false fun row hr => (hfr row hr).1] at this
    simp at this
theorem none_no_good : ∀ (n : Nat) (rows : List (List Ag)), tot rows < n → c3 n rows = none → ∀ o, ¬ Good rows o
  | 0, _, h, _, _ => absurd h (Nat.not_lt_zero _)
  | n + 1, rows, ht, h, o => fun G => by
    rw [c3_succ] at h
    split at h
    · cases h
    · rename_i hne
      cases hp : pick rows with
      | none => exact exists_pick G (by simpa using hne) hp
      | some c =>
        rw [hp] at h
        have := tot_step_lt c rows (pick_mem hp)
        exact none_no_good n _ (by omega) (by simpa using h) _ (good_step G hp)
end Mine
end

section
set_option maxRecDepth 100000
set_option autoImplicit false
set_option linter.unusedVariables false
set_option linter.unusedSimpArgs false
namespace Mine
theorem some_good : ∀ (n : Nat) (rows : List (List Ag)) (r : List Ag), c3 n rows = some r → Good rows r ∧ ∀ a ∈ r, ∃ row ∈ rows, a ∈ row
  | 0, _, _, h => by cases h
  | n + 1, rows, r, h => by
    rw [c3_succ] at h
    split at h
    · rename_i he
      obtain rfl := Option.some.inj h
      refine ⟨⟨List.nodup_nil, fun row hr => ?_⟩, fun a ha => by cases ha⟩
      have := List.all_eq_true.mp he row hr
      rw [List.isEmpty_iff.mp this]; rfl
    · cases hp : pick rows with
      | none => rw [hp] at h; cases h
      | some c =>
        rw [hp] at h
        simp only [Option.map_eq_some_iff] at h
        obtain ⟨r', h', rfl⟩ := h
        obtain ⟨G, hs⟩ := some_good n _ r' h'
        have fr := pick_free hp
        have hcr : ∀ row ∈ rows, c ∉ step c row := fun row hr q => by
          rcases step_cases (fr row hr) with ⟨tl, rfl, hc, e⟩ | ⟨hc, e⟩
          · rw [e] at q; exact hc q
          · rw [e] at q; exact hc q
        have hc : c ∉ r' := fun q => by
          obtain ⟨row', hr', ha⟩ := hs c q
          obtain ⟨row, hr, rfl⟩ := List.mem_map.mp hr'
          exact hcr row hr ha
        refine ⟨⟨List.nodup_cons.mpr ⟨hc, G.nd⟩, fun row hr => ?_⟩, fun a ha => ?_⟩
        · have hf := G.fit _ (List.mem_map_of_mem (f := step c) hr)
          rw [List.filter_cons]
          rcases step_cases (fr row hr) with ⟨tl, rfl, hc2, e⟩ | ⟨hc2, e⟩
          · rw [e] at hf
            rw [if_pos (by simp)]
            congr 1
            rw [← hf]
            apply List.filter_congr
            intro a ha
            have : a ≠ c := fun q => hc (q ▸ ha)
            rw [hf]
            simp [this]
          · rw [e] at hf
            rw [if_neg fun q => hc2 (List.contains_iff_mem.mp q)]
            exact hf
        · rcases List.mem_cons.mp ha with rfl | ha
          · obtain ⟨row, hr, hh⟩ := List.mem_filterMap.mp (pick_mem hp)
            exact ⟨row, hr, List.mem_of_mem_head? hh⟩
          · obtain ⟨row', hr', ha⟩ := hs a ha
            obtain ⟨row, hr, rfl⟩ := List.mem_map.mp hr'
            refine ⟨row, hr, ?_⟩
            rcases step_cases (fr row hr) with ⟨tl, rfl, hc2, e⟩ | ⟨hc2, e⟩
            · rw [e] at ha; exact .tail _ ha
            · rw [e] at ha; exact ha

theorem find_before (p : Ag → Bool) : ∀ (rows : List (List Ag)) (c x : Ag) (j : Nat) (row : List Ag), (rows.filterMap List.head?).find? p = some c → rows[j]? = some row → row.head? = some x → p x = true → x ≠ c → ∃ i < j, ∃ r, rows[i]? = some r ∧ r.head? = some c
  | [], _, _, _, _, h, _, _, _, _ => by simp at h
  | y :: ys, c, x, j, row, h, hj, hx, hp, hne => by
    rw [List.filterMap_cons] at h
    cases hy : y.head? with
    | none =>
      rw [hy] at h
      cases j with
      | zero =>
        have : y = row := by simpa using hj
        rw [this, hx] at hy; cases hy
      | succ j =>
        obtain ⟨i, hi, r, hr, hh⟩ := find_before p ys c x j row h (by simpa using hj) hx hp hne
        exact ⟨i + 1, by omega, r, by simpa using hr, hh⟩
    | some b =>
      rw [hy] at h
      simp only [List.find?_cons] at h
      cases hb : p b with
      | true =>
        rw [hb] at h
        obtain rfl := Option.some.inj h
        cases j with
        | zero =>
          have : y = row := by simpa using hj
          rw [this, hx] at hy
          exact absurd (Option.some.inj hy) hne
        | succ j => exact ⟨0, by omega, y, rfl, hy⟩
      | false =>
        rw [hb] at h
        cases j with
        | zero =>
          have : y = row := by simpa using hj
          rw [this, hx] at hy
          obtain rfl := Option.some.inj hy
          rw [hb] at hp; cases hp
        | succ j =>
          obtain ⟨i, hi, r, hr, hh⟩ := find_before p ys c x j row h (by simpa using hj) hx hp hne
          exact ⟨i + 1, by omega, r, by simpa using hr, hh⟩

def fidx (rows : List (List Ag)) (a : Ag) : Nat := rows.findIdx fun r => r.contains a
theorem fidx_le {rows : List (List Ag)} {a : Ag} {i : Nat} {r : List Ag} (h : rows[i]? = some r) (ha : a ∈ r) : fidx rows a ≤ i := by
  unfold fidx
  apply Nat.le_of_not_lt
  intro hlt
  have h1 := List.not_of_lt_findIdx hlt
  obtain ⟨hi, e⟩ := List.getElem?_eq_some_iff.mp h
  rw [e] at h1
  rw [List.contains_iff_mem.mpr ha] at h1; cases h1
theorem fidx_lt {rows : List (List Ag)} {a : Ag} {r : List Ag} (h : r ∈ rows) (ha : a ∈ r) : fidx rows a < rows.length := by
  unfold fidx
  exact List.findIdx_lt_length_of_exists ⟨r, h, List.contains_iff_mem.mpr ha⟩
theorem fidx_at {rows : List (List Ag)} {a : Ag} (h : fidx rows a < rows.length) : ∃ r, rows[fidx rows a]? = some r ∧ a ∈ r := by
  refine ⟨rows[fidx rows a], List.getElem?_eq_getElem h, ?_⟩
  exact List.contains_iff_mem.mp (List.findIdx_getElem (w := h))
theorem fidx_step {rows : List (List Ag)} {a c : Ag} (h : a ≠ c) : fidx (rows.map (step c)) a = fidx rows a := by
  unfold fidx
  rw [List.findIdx_map]
  congr 1
  funext r
  show (step c r).contains a = r.contains a
  cases r with
  | nil => rfl
  | cons x tl =>
    by_cases hx : x = c
    · subst hx; simp [step, h]
    · simp [step, hx]

theorem lex_first : ∀ (n : Nat) (rows : List (List Ag)) (r o : List Ag) (rk : Ag → Nat), c3 n rows = some r → Good rows o → (∀ a ∈ o, rk a = fidx rows a) →
    (∃ t, o = r ++ t ∧ ∀ a ∈ t, ∀ row ∈ rows, a ∉ row ∨ a ∈ r) ∨ ∀ m, lexW (fun x y => decide (x < y)) ((r ++ m).map rk) (o.map rk) = true
  | 0, _, _, _, _, h, _, _ => by cases h
  | n + 1, rows, r, o, rk, h, G, hk => by
    rw [c3_succ] at h
    split at h
    · rename_i he
      obtain rfl := Option.some.inj h
      refine .inl ⟨o, rfl, fun a ha row hr => .inl fun q => ?_⟩
      have := List.all_eq_true.mp he row hr
      rw [List.isEmpty_iff.mp this] at q; cases q
    · cases hp : pick rows with
      | none => rw [hp] at h; cases h
      | some c =>
        rw [hp] at h
        simp only [Option.map_eq_some_iff] at h
        obtain ⟨r', h', rfl⟩ := h
        obtain ⟨rc, hrc, hhc⟩ := List.mem_filterMap.mp (pick_mem hp)
        have hcm : c ∈ rc := List.mem_of_mem_head? hhc
        have hco : c ∈ o := G.mem hrc hcm
        cases o with
        | nil => cases hco
        | cons x o' =>
          by_cases hx : x = c
          · subst hx
            have nd := List.nodup_cons.mp G.nd
            have e : ((x :: o').filter fun y => decide (y ≠ x)) = o' := by
              rw [List.filter_cons, if_neg (by simp)]; exact filter_ne nd.1
            have G' := good_step G hp
            rw [e] at G'
            have hk' : ∀ a ∈ o', rk a = fidx (rows.map (step x)) a := fun a ha => by
              rw [fidx_step (c := x) (fun q : a = x => nd.1 (q ▸ ha))]; exact hk a (.tail _ ha)
            rcases lex_first n _ r' o' rk h' G' hk' with ⟨t, rfl, ht⟩ | hl
            · refine .inl ⟨t, rfl, fun a ha row hr => ?_⟩
              rcases ht a ha _ (List.mem_map_of_mem (f := step x) hr) with q | q
              · rcases step_cases (pick_free hp row hr) with ⟨tl, rfl, hc2, e2⟩ | ⟨hc2, e2⟩
                · rw [e2] at q
                  by_cases hax : a = x
                  · exact .inr (hax ▸ .head _)
                  · exact .inl fun z => by
                      rcases List.mem_cons.mp z with z | z
                      · exact hax z
                      · exact q z
                · rw [e2] at q; exact .inl q
              · exact .inr (.tail _ q)
            · refine .inr fun m => ?_
              have := hl m
              simp only [List.cons_append, List.map_cons, lexW, if_true]
              exact this
          · refine .inr fun m => ?_
            have hlt : rk c < rk x := by
              rw [hk c hco, hk x (.head _)]
              by_cases hxr : ∃ row ∈ rows, x ∈ row
              · obtain ⟨row, hr, hxm⟩ := hxr
                have hl := fidx_lt hr hxm
                obtain ⟨r1, hr1, hx1⟩ := fidx_at hl
                have fr := first_free (pre := []) G fun a ha => by cases ha
                have hm1 : r1 ∈ rows := List.mem_of_getElem? hr1
                obtain ⟨i, hi, r2, hr2, hh2⟩ := find_before (fun c => !rej rows c) rows c x (fidx rows x) r1 hp hr1 ((fr r1 hm1).2 hx1) (by rw [rej_false fun row hr => (fr row hr).1]; rfl) hx
                exact Nat.lt_of_le_of_lt (fidx_le hr2 (List.mem_of_mem_head? hh2)) hi
              · have : fidx rows x = rows.length := by
                  unfold fidx
                  rw [List.findIdx_eq_length]
                  intro row hr
                  rw [Bool.eq_false_iff]
                  exact fun q => hxr ⟨row, hr, List.contains_iff_mem.mp q⟩
                rw [this]
                exact fidx_lt hrc hcm
            simp only [List.cons_append, List.map_cons, lexW]
            rw [if_neg (by omega)]
            exact decide_eq_true hlt
end Mine
end

section
set_option maxRecDepth 100000
set_option autoImplicit false
set_option linter.unusedVariables false
set_option linter.unusedSimpArgs false
namespace Mine
open PySem
abbrev lx (p q : List Nat) : Bool := lexW (fun x y => decide (x < y)) p q
theorem lx_irrefl : ∀ p : List Nat, lx p p = false
  | [] => rfl
  | x :: p => by simp only [lx, lexW, if_true]; exact lx_irrefl p
theorem lx_trans : ∀ p q r : List Nat, lx p q = true → lx q r = true → lx p r = true
  | [], [], _, h, _ => by simp [lx, lexW] at h
  | [], _ :: _, [], _, h => by simp [lx, lexW] at h
  | [], _ :: _, _ :: _, _, _ => rfl
  | _ :: _, [], _, h, _ => by simp [lx, lexW] at h
  | _ :: _, _ :: _, [], _, h => by simp [lx, lexW] at h
  | a :: p, b :: q, c :: r, h1, h2 => by
    simp only [lx, lexW] at h1 h2 ⊢
    by_cases hab : a = b
    · subst hab
      rw [if_pos rfl] at h1
      by_cases hac : a = c
      · subst hac
        rw [if_pos rfl] at h2 ⊢
        exact lx_trans p q r h1 h2
      · rw [if_neg hac] at h2 ⊢; exact h2
    · rw [if_neg hab] at h1
      have h1 := of_decide_eq_true h1
      by_cases hbc : b = c
      · subst hbc
        rw [if_neg hab]; exact decide_eq_true h1
      · rw [if_neg hbc] at h2
        have h2 := of_decide_eq_true h2
        rw [if_neg (by omega)]; exact decide_eq_true (by omega)

theorem best_least (rk : Nat → List Nat) (bt : Nat → Nat → Bool) (h1 : ∀ i j, lx (rk i) (rk j) = true → bt i j = true) (h2 : ∀ i j, bt i j = true → rk i = rk j ∨ lx (rk i) (rk j) = true) : ∀ k j, j ≤ k → lx (rk j) (rk (argBest bt k)) = false
  | 0, j, h => by
    obtain rfl : j = 0 := by omega
    exact lx_irrefl _
  | k + 1, j, h => by
    simp only [argBest]
    cases hb : bt (k + 1) (argBest bt k) with
    | true =>
      rw [if_pos rfl]
      by_cases hj : j = k + 1
      · subst hj; exact lx_irrefl _
      · have ih := best_least rk bt h1 h2 k j (by omega)
        rcases h2 _ _ hb with e | e
        · rw [e]; exact ih
        · cases hl : lx (rk j) (rk (k + 1)) with
          | false => rfl
          | true => rw [lx_trans _ _ _ hl e] at ih; cases ih
    | false =>
      rw [if_neg (by decide)]
      by_cases hj : j = k + 1
      · subst hj
        cases hl : lx (rk (k + 1)) (rk (argBest bt k)) with
        | false => rfl
        | true => rw [h1 _ _ hl] at hb; cases hb
      · exact best_least rk bt h1 h2 k j (by omega)
theorem best_le (bt : Nat → Nat → Bool) : ∀ j, argBest bt j ≤ j
  | 0 => Nat.le_refl _
  | j + 1 => by have := best_le bt j; unfold argBest; split <;> omega

/-- the orders that fit all rows -/
def FF (rows : List (List Ag)) : List (List Ag) := (wAll 4).filter fun o => rows.all fun row => fits row o
theorem wAll_nodup : ∀ o ∈ wAll 4, o.Nodup ∧ o.length = 4 := by decide +kernel
theorem wAll_has4 : ∀ a b c d : Ag, [a, b, c, d].Nodup → [a, b, c, d] ∈ wAll 4 := by decide +kernel
theorem no5 : ∀ a b c d e : Ag, ¬ [a, b, c, d, e].Nodup := by decide +kernel
theorem miss3 : ∀ a b c : Ag, ∃ x : Ag, x ∉ [a, b, c] := by decide +kernel
theorem wAll_of {o : List Ag} (nd : o.Nodup) (h : ∀ a : Ag, a ∈ o) : o ∈ wAll 4 := by
  match o, nd, h with
  | [], _, h => exact absurd (h 0) (by simp)
  | [a], _, h => obtain ⟨x, hx⟩ := miss3 a a a; exact absurd (h x) (fun q => hx (by simp at q ⊢; exact q))
  | [a, b], _, h => obtain ⟨x, hx⟩ := miss3 a b b; exact absurd (h x) (fun q => hx (by simp at q ⊢; exact q))
  | [a, b, c], _, h => obtain ⟨x, hx⟩ := miss3 a b c; exact absurd (h x) hx
  | [a, b, c, d], nd, _ => exact wAll_has4 a b c d nd
  | a :: b :: c :: d :: e :: r, nd, _ =>
    exact absurd (nd.sublist (show [a, b, c, d, e].Sublist (a :: b :: c :: d :: e :: r) from by
      have : [a, b, c, d, e].Sublist ([a, b, c, d, e] ++ r) := List.sublist_append_left _ _
      exact this)) (no5 a b c d e)
theorem FF_good {rows : List (List Ag)} {o : List Ag} (h : o ∈ FF rows) : Good rows o := by
  obtain ⟨h1, h2⟩ := List.mem_filter.mp h
  refine ⟨(wAll_nodup o h1).1, fun row hr => ?_⟩
  exact of_decide_eq_true (List.all_eq_true.mp h2 row hr)
theorem good_FF {rows : List (List Ag)} {o : List Ag} (G : Good rows o) (h : ∀ a : Ag, a ∈ o) : o ∈ FF rows :=
  List.mem_filter.mpr ⟨wAll_of G.nd h, List.all_eq_true.mpr fun row hr => decide_eq_true (G.fit row hr)⟩
/-- an order of the rows' agents, and the others behind -/
def rest (r : List Ag) : List Ag := ([0, 1, 2, 3] : List Ag).filter fun a => !r.contains a
theorem rest_in {rows : List (List Ag)} {r : List Ag} (G : Good rows r) : r ++ rest r ∈ FF rows := by
  have hm : ∀ a : Ag, a ∈ ([0, 1, 2, 3] : List Ag) := by decide
  have hr : ∀ a, a ∈ rest r ↔ a ∉ r := fun a => by
    unfold rest; rw [List.mem_filter]; simp [hm a]
  refine good_FF ⟨?_, fun row h => ?_⟩ fun a => ?_
  · rw [List.nodup_append]
    refine ⟨G.nd, (by decide : ([0, 1, 2, 3] : List Ag).Nodup).filter _, fun a ha b hb q => ?_⟩
    subst q; exact (hr a).mp hb ha
  · rw [List.filter_append, G.fit row h]
    have : ((rest r).filter fun x => row.contains x) = [] := by
      rw [List.filter_eq_nil_iff]
      intro a ha q
      exact (hr a).mp ha (G.mem h (List.contains_iff_mem.mp q))
    rw [this, List.append_nil]
  · rw [List.mem_append]
    by_cases h : a ∈ r
    · exact .inl h
    · exact .inr ((hr a).mpr h)
theorem fst3_fidx {rows : List (List Ag)} (h : rows.length = 3) (a : Ag) : fst3 rows a = fidx rows a := by
  match rows, h with
  | [x, y, z], _ =>
    unfold fst3 rowsOf fidx
    rw [show List.range 3 = [0, 1, 2] from rfl]
    simp only [List.filter_cons, List.filter_nil, List.findIdx_cons, List.findIdx_nil]
    show ((if (x.contains a) = true then 0 :: (if (y.contains a) = true then 1 :: (if (z.contains a) = true then [2] else []) else (if (z.contains a) = true then [2] else [])) else (if (y.contains a) = true then 1 :: (if (z.contains a) = true then [2] else []) else (if (z.contains a) = true then [2] else []))) ++ [3]).headD 3 = _
    cases x.contains a <;> cases y.contains a <;> cases z.contains a <;> rfl

theorem c3_least {N : Nat} {rows : List (List Ag)} (h3 : rows.length = 3) (ht : tot rows < N) : c3 N rows = least rows (FF rows) := by
  cases hc : c3 N rows with
  | none =>
    have : FF rows = [] := by
      cases hf : FF rows with
      | nil => rfl
      | cons o r => exact absurd (FF_good (o := o) (by rw [hf]; exact .head _)) (none_no_good N rows ht hc o)
    rw [this]; rfl
  | some r =>
    obtain ⟨G, hs⟩ := some_good N rows r hc
    have hin := rest_in G
    obtain ⟨j, hj⟩ := List.getElem?_of_mem hin
    have hjl := (List.getElem?_eq_some_iff.mp hj).1
    have hne : (FF rows).isEmpty = false := by
      cases hf : FF rows with
      | nil => rw [hf] at hin; cases hin
      | cons a b => rfl
    unfold least
    rw [hne, if_neg (by decide)]
    congr 1
    generalize hb : argBest (btOf rows (FF rows)) ((FF rows).length - 1) = b
    have hbl : b < (FF rows).length := by have := best_le (btOf rows (FF rows)) ((FF rows).length - 1); omega
    have hbe : (FF rows).getD b [] = (FF rows)[b] := by rw [List.getD_eq_getElem?_getD, List.getElem?_eq_getElem hbl]; rfl
    rw [hbe]
    have Gb := FF_good (List.getElem_mem hbl)
    have key := best_least (fun i => ((FF rows).getD i []).map (fst3 rows)) (btOf rows (FF rows)) (fun i j h => by
        unfold btOf rkLt rkOf
        simp only
        by_cases e : ((FF rows).getD i []).map (fst3 rows) = ((FF rows).getD j []).map (fst3 rows)
        · rw [e] at h; rw [lx_irrefl] at h; cases h
        · rw [if_neg e]; exact h) (fun i j h => by
        unfold btOf rkLt rkOf at h
        simp only at h
        by_cases e : ((FF rows).getD i []).map (fst3 rows) = ((FF rows).getD j []).map (fst3 rows)
        · exact .inl e
        · rw [if_neg e] at h; exact .inr h) ((FF rows).length - 1) j (by omega)
    try dsimp only at key
    rw [hb, hbe] at key
    have hje : (FF rows).getD j [] = r ++ rest r := by rw [List.getD_eq_getElem?_getD, hj]; rfl
    rw [hje] at key
    rcases lex_first N rows r (FF rows)[b] (fst3 rows) hc Gb (fun a _ => fst3_fidx h3 a) with ⟨t, e, ht⟩ | hl
    · rw [e, List.filter_append]
      have nd := Gb.nd
      rw [e, List.nodup_append] at nd
      have e1 : (r.filter fun a => decide (fst3 rows a < 3)) = r := by
        rw [List.filter_eq_self]
        intro a ha
        obtain ⟨row, hr, har⟩ := hs a ha
        rw [fst3_fidx h3]
        have := fidx_lt hr har
        exact decide_eq_true (by omega)
      have e2 : (t.filter fun a => decide (fst3 rows a < 3)) = [] := by
        rw [List.filter_eq_nil_iff]
        intro a ha q
        rw [fst3_fidx h3] at q
        have q := of_decide_eq_true q
        obtain ⟨row, hr, har⟩ := fidx_at (rows := rows) (a := a) (by omega)
        rcases ht a ha row (List.mem_of_getElem? hr) with z | z
        · exact z har
        · exact nd.2.2 a z a ha rfl
      rw [e1, e2, List.append_nil]
    · rw [show lx ((r ++ rest r).map (fst3 rows)) ((FF rows)[b].map (fst3 rows)) = true from hl (rest r)] at key
      cases key
end Mine
end

section
set_option maxRecDepth 100000
set_option autoImplicit false
set_option linter.unusedVariables false
set_option linter.unusedSimpArgs false
namespace Mine
def Okr (rows ords : List (List Ag)) : Prop := rows.length = 3 ∧ ords = FF rows ∧ ords ≠ []
theorem row_len {rows : List (List Ag)} {o : List Ag} (h : o ∈ FF rows) {row : List Ag} (hr : row ∈ rows) : row.length ≤ 4 := by
  rw [← (FF_good h).fit row hr]
  exact Nat.le_trans (List.length_filter_le _ _) (Nat.le_of_eq (wAll_nodup o (List.mem_filter.mp h).1).2)
theorem tot_le : ∀ rows : List (List Ag), (∀ row ∈ rows, row.length ≤ 4) → tot rows ≤ 4 * rows.length
  | [], _ => Nat.le_refl _
  | x :: r, h => by
    have h1 := h x (.head _)
    have h2 := tot_le r fun row hr => h row (.tail _ hr)
    simp only [tot, List.length_cons]; omega
theorem Okr.tot {rows ords : List (List Ag)} (h : Okr rows ords) : Mine.tot rows ≤ 12 := by
  obtain ⟨h3, rfl, hne⟩ := h
  obtain ⟨o, ho⟩ := List.exists_mem_of_ne_nil _ hne
  have := tot_le rows fun row hr => row_len ho hr
  omega
theorem wAll_len : (wAll 4).length = 24 := by decide +kernel
/-- a longer row that fits, then the shorter one does -/
theorem fits_front {o row : List Ag} {a : Ag} (nd : o.Nodup) (h : fits (row ++ [a]) o = true) : fits row o = true := by
  have h := of_decide_eq_true h
  refine decide_eq_true ?_
  have hn : (row ++ [a]).Nodup := h ▸ nd.filter _
  rw [List.nodup_append] at hn
  have ha : a ∉ row := fun q => hn.2.2 a q a (by simp) rfl
  have e : (o.filter fun x => row.contains x) = (o.filter fun x => (row ++ [a]).contains x).filter fun x => row.contains x := by
    rw [List.filter_filter]
    apply List.filter_congr
    intro x _
    by_cases hx : x ∈ row
    · simp [hx]
    · simp [hx]
  rw [e, h, List.filter_append]
  have e1 : (row.filter fun x => row.contains x) = row := by
    rw [List.filter_eq_self]; intro x hx; exact List.contains_iff_mem.mpr hx
  have e2 : ([a].filter fun x => row.contains x) = [] := by
    rw [List.filter_eq_nil_iff]
    intro x hx q
    obtain rfl := List.mem_singleton.mp hx
    exact ha (List.contains_iff_mem.mp q)
  rw [e1, e2, List.append_nil]
theorem fit_FF {rows : List (List Ag)} {i : Nat} {a : Ag} (hi : i < rows.length) : fit (FF rows) (rows.getD i [] ++ [a]) = FF (tri rows i a) := by
  unfold fit FF
  rw [List.filter_filter]
  apply List.filter_congr
  intro o ho
  have nd := (wAll_nodup o ho).1
  have hg : rows.getD i [] = rows[i] := by rw [List.getD_eq_getElem?_getD, List.getElem?_eq_getElem hi]; rfl
  have e : rows = rows.take i ++ rows[i] :: rows.drop (i + 1) := by rw [← List.drop_eq_getElem_cons hi, List.take_append_drop]
  rw [Bool.eq_iff_iff]
  unfold tri
  rw [hg]
  simp only [Bool.and_eq_true, List.all_append, List.all_cons, List.all_nil, Bool.and_true]
  have e2 : (rows.all fun row => fits row o) = ((rows.take i).all (fun row => fits row o) && (fits rows[i] o && (rows.drop (i + 1)).all fun row => fits row o)) := by
    conv => lhs; rw [e]
    simp only [List.all_append, List.all_cons]
  rw [e2]
  simp only [Bool.and_eq_true]
  constructor
  · rintro ⟨h1, h2, h3, h4⟩; exact ⟨⟨h2, h1⟩, h4⟩
  · rintro ⟨⟨h2, h1⟩, h4⟩; exact ⟨h1, h2, fits_front nd h1, h4⟩
theorem fold_filter (rows : List (List Ag)) : ∀ (l : List Nat) (r : List Ag) (p : Ag → Bool), l.foldl (fun x i => x.filter fun a => (rows.getD i []).contains a) (r.filter p) = r.filter fun a => p a && hasAll rows l a
  | [], r, p => by simp [hasAll]
  | i :: l, r, p => by
    rw [List.foldl_cons, List.filter_filter, fold_filter rows l r]
    apply List.filter_congr
    intro a _
    simp only [hasAll, List.all_cons]
    cases p a <;> cases (rows.getD i []).contains a <;> simp
theorem plain_law : Plain 201 Okr where
  okay := {
    sz := fun rows ords h => by
      have ht := h.tot
      obtain ⟨h3, rfl, hne⟩ := h
      refine ⟨h3, by omega, Nat.le_trans (List.length_filter_le _ _) (by rw [wAll_len]; decide), fun o ho => ?_⟩
      rw [(wAll_nodup o (List.mem_filter.mp ho).1).2]; decide
    same := fun rows ords i a h hi => by
      have ht := h.tot
      obtain ⟨h3, rfl, hne⟩ := h
      rw [fit_FF (by omega)]
      refine c3_least (by rw [tri_len (by omega), h3]) ?_
      rw [tri_tot (by omega)]; omega
    next := fun rows ords i a h hi hne => by
      obtain ⟨h3, rfl, _⟩ := h
      rw [fit_FF (by omega)] at hne ⊢
      exact ⟨by rw [tri_len (by omega), h3], rfl, hne⟩ }
  init := fun a b c => by
    have key : ∀ a b c : Ag, wAll 4 = FF [[a], [b], [c]] := by decide +kernel
    exact ⟨rfl, key a b c, by decide⟩
  told := fun rows ords h => by
    have ht := h.tot
    obtain ⟨h3, rfl, hne⟩ := h
    cases hc : c3 201 rows with
    | none =>
      obtain ⟨o, ho⟩ := List.exists_mem_of_ne_nil _ hne
      exact absurd (FF_good ho) (none_no_good 201 rows (by omega) hc o)
    | some r =>
      obtain ⟨G, hs⟩ := some_good 201 rows r hc
      have hl : (r ++ rest r).length = 4 := (wAll_nodup _ (List.mem_filter.mp (rest_in G)).1).2
      rw [List.length_append] at hl
      refine ⟨r, rfl, by omega, fun n h1 h8 => ?_⟩
      have hb := bits_pos n h8 h1
      have hlt : ∀ i ∈ bits n 3, i < 3 := fun i hi => bits_lt hi
      generalize bits n 3 = ch at hb hlt
      cases ch with
      | nil => exact absurd rfl hb
      | cons c0 cs =>
        have hm : rows.getD c0 [] ∈ rows := by
          have := hlt c0 (.head _)
          rw [List.getD_eq_getElem?_getD, List.getElem?_eq_getElem (by omega)]
          exact List.getElem_mem _
        unfold meet
        simp only [List.headD_cons, List.drop_succ_cons, List.drop_zero]
        rw [← G.fit _ hm, fold_filter rows cs r]
        apply List.filter_congr
        intro a _
        rfl
end Mine
end

set_option maxRecDepth 100000
open PySem PySem.W PyProof.Rows
theorem Mine.ints_are {vs : List Value} {ns : List Int} (h : IntsAre vs ns) : ∀ v ∈ vs, Mine.isInt v := by
  induction h with
  | nil => intro v hv; cases hv
  | cons _ _ _ ih =>
    intro v hv
    rcases List.mem_cons.mp hv with rfl | hv
    · exact ⟨_, _, rfl⟩
    · exact ih v hv
set_option maxHeartbeats 4000000 in
theorem PySem.Challenge.cw_nq0051_01_holds : PySem.Challenge.rw_nq0051_01.Holds :=
  Mine.hd (by
    k_fill
    intro w s₀ s₁ mg mb G Y fa o pm cd doc dV kV ho hd hcd hD hmg hg args vals as hpre hlay hrd hwl hlo
    have KX := kIn_of Y
    clear hd hcd hD
    refine Ground.open G ?_
    intro T B D TE TW
    clear D B TE TW
    have e116 : some (Value.ref 116) = some (Value.ref fa) := (mg_of KX T.g (n := Str.ofString "law") (v := .ref 116) rfl).symm.trans hmg
    have e116 : 116 = fa := by injection e116 with e; injection e
    subst e116
    clear hmg ho
    wrow_args hpre hlay hrd hwl hlo
    all_goals (
      first | refine callC_kw (enter_call ?_) | refine enter_call ?_ | refine callC_kw (enter_callW ?_) | refine enter_callW ?_ | w_how
      rename_i hL _ _ _ hI _ hlen _
      refine codeAny_mono ?_ (fun _ _ g => GoodW.toG g)
      refine Mine.law_ok (g := s₁.heap) Mine.plain_law (by decide) ⟨KX, _, _, _, _, topRead_of T⟩ (Mine.Kp.refl _) ⟨rfl, by decide, by decide⟩ rfl hL (Mine.ints_are hI) ?_ fun g' s' Gr => ?_
      · have := IntsAre.length hI
        omega
      · refine ⟨.inl ⟨.bool true, .bool true, [], rfl, fun _ => rfl, .bool _, (by first | with_unfolding_all rfl | kernel_rfl), fun _ => ⟨List.nodup_nil, fun _ h => nomatch h⟩⟩, Gr.kp, ?_, ?_⟩
        · obtain ⟨hh, tt, e⟩ := Gr.same
          rw [e]
        · obtain ⟨hh, tt, e⟩ := Gr.same
          rw [e]; exact hg))
