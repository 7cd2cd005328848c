import PyProof.Rows.All
import Wide.All
import OpenK.AllK
import Wide.FinOn
import PySem.Challenge.RW_mj0111_01
-- part Top3
open PySem PySem.W PySem.W.X PyProof.Rows
set_option Elab.async false
set_option maxRecDepth 100000
set_option maxHeartbeats 0
local macro_rules | `(tactic| k_head) => `(tactic| z_head)
open_top Mine.hd for PySem.Challenge.rw_mj0111_01
set_option pp.deepTerms false
set_option pp.maxSteps 500

-- part LBase
set_option maxRecDepth 100000
namespace Mine
open PySem PySem.W PySem.W.X PyProof.Rows PySem.Calls

-- what is known of objects that stay
noncomputable abbrev Kn := Addr → Option Obj
def le (I J : Kn) : Prop := ∀ b o, I b = some o → J b = some o
def InH (I : Kn) (h : Heap) : Prop := ∀ b o, I b = some o → h.get? b = some o
theorem le.refl (I : Kn) : le I I := fun _ _ e => e
theorem le.trans {I J K : Kn} (x : le I J) (y : le J K) : le I K := fun b o e => y b o (x b o e)
noncomputable def put (I : Kn) (a : Addr) (o : Obj) : Kn := fun b => if b = a then some o else I b
theorem put_self (I : Kn) (a : Addr) (o : Obj) : put I a o a = some o := if_pos rfl
theorem put_ne {I : Kn} {a b : Addr} {o : Obj} (h : b ≠ a) : put I a o b = I b := if_neg h
theorem le_put {I : Kn} {a : Addr} {o : Obj} (h : I a = none) : le I (put I a o) := fun b o' e => by
  by_cases q : b = a
  · subst q; rw [h] at e; cases e
  · rw [put_ne q]; exact e

noncomputable def lamQual : Str := "_law_order.<locals>.<lambda>"
-- the table of _law_order's code: empty, or it bears the lambda's code
def Tab (I : Kn) (h : Heap) : Prop :=
  h.get? 93 = some (tableObj #[]) ∨ ∃ ln cl c vs t, h.get? 93 = some (tableObj #[.int ln 0, .int cl 0, .ref c]) ∧ (∃ o, I c = some o ∧ o.data = .fields vs) ∧ vs[1]? = some (.str lamQual t) ∧ ln = 98 ∧ cl = 38

noncomputable abbrev KK (P : Params) : Frag := Mine.hd.heap_138 P
structure Ok (P : Params) (I : Kn) (h : Heap) : Prop where
  inh : InH I h
  tab : Tab I h
  t93 : I 93 = none
  prog : ∀ a o, (KK P).lookup a = some o → a ≠ 16 → a ≠ 86 → a ≠ 93 → I a = some o

structure Grow (h : Heap) (I : Kn) (h' : Heap) (I' : Kn) : Prop where
  keep : ∀ b o, b ≠ 93 → h.get? b = some o → h'.get? b = some o
  le : le I I'
  inh : InH I' h'
  new : ∀ b o, I' b = some o → I b = some o ∨ h.get? b = none
  tab : Tab I' h'

theorem tab_there {I : Kn} {h : Heap} (t : Tab I h) : ∃ o, h.get? 93 = some o := by
  rcases t with e | ⟨_, _, _, _, _, e, _⟩
  · exact ⟨_, e⟩
  · exact ⟨_, e⟩
theorem Grow.ok {P : Params} {h h' : Heap} {I I' : Kn} (g : Grow h I h' I') (k : Ok P I h) : Ok P I' h' where
  inh := g.inh
  tab := g.tab
  t93 := by
    cases e : I' 93 with
    | none => rfl
    | some o =>
      rcases g.new _ _ e with e' | e'
      · rw [k.t93] at e'; cases e'
      · obtain ⟨o, x⟩ := tab_there k.tab; rw [x] at e'; cases e'
  prog := fun a o e h1 h2 h3 => g.le _ _ (k.prog a o e h1 h2 h3)
theorem Grow.refl {P : Params} {h : Heap} {I : Kn} (k : Ok P I h) : Grow h I h I := ⟨fun _ _ _ e => e, le.refl _, k.inh, fun _ _ e => .inl e, k.tab⟩
theorem Grow.trans {P : Params} {h h' h'' : Heap} {I I' I'' : Kn} (k : Ok P I h) (g : Grow h I h' I') (g' : Grow h' I' h'' I'') : Grow h I h'' I'' where
  keep := fun b o n e => g'.keep b o n (g.keep b o n e)
  le := g.le.trans g'.le
  inh := g'.inh
  new := fun b o e => by
    have k' := g.ok k
    have k'' := g'.ok k'
    rcases g'.new _ _ e with e' | e'
    · exact g.new _ _ e'
    · refine .inr ?_
      cases q : h.get? b with
      | none => rfl
      | some o' =>
        by_cases n : b = 93
        · subst n; rw [k''.t93] at e; cases e
        · rw [g.keep b o' n q] at e'; cases e'
  tab := g'.tab

-- the state of a frame: what stays (I), its names (m at L), its own objects that may turn (mu)
structure St (P : Params) (X : List Addr) (h₀ : Heap) (I₀ I : Kn) (L : Addr) (m : Str → Option Value) (mu : List (Addr × Obj)) (h : Heap) : Prop where
  ok : Ok P I h
  ns : h.Ns L m
  offL : I L = none
  own : ∀ p ∈ mu, h.get? p.1 = some p.2 ∧ I p.1 = none ∧ p.1 ≠ L ∧ h₀.get? p.1 = none
  nd : (mu.map (·.1)).Nodup
  base : ∀ b o, b ∉ X → h₀.get? b = some o → h.get? b = some o
  new : ∀ b o, I b = some o → I₀ b = some o ∨ h₀.get? b = none
  le : le I₀ I
  newL : h₀.get? L = none
  hX : 93 ∈ X
  t0 : ∃ o, h₀.get? 93 = some o
  xs : ∀ b ∈ X, ∃ o, h.get? b = some o
  x0 : ∀ b ∈ X, ∃ o, h₀.get? b = some o

section
variable {P : Params} {X : List Addr} {h₀ h h' : Heap} {I₀ I I' : Kn} {L : Addr} {m m' : Str → Option Value} {mu mu' : List (Addr × Obj)}

theorem St.exit (S : St P [93] h₀ I₀ I L m mu h) : Grow h₀ I₀ h I where
  keep := fun b o n e => S.base b o (by simpa using n) e
  le := S.le
  inh := S.ok.inh
  new := S.new
  tab := S.ok.tab
theorem St.neL (S : St P X h₀ I₀ I L m mu h) : L ≠ 93 := fun e => by
  obtain ⟨o, x⟩ := S.t0; have := S.newL; rw [e, x] at this; cases this
theorem St.neM (S : St P X h₀ I₀ I L m mu h) {p : Addr × Obj} (hp : p ∈ mu) : p.1 ≠ 93 := fun e => by
  obtain ⟨o, x⟩ := S.t0; have := (S.own p hp).2.2.2; rw [e, x] at this; cases this
theorem tab_same {a : Addr} (t : Tab I h) (hs : Heap.SameBut a h h') (ha : a ≠ 93) : Tab I h' := by
  rcases t with e | ⟨ln, cl, c, vs, t, e, r⟩
  · exact .inl ((hs.2 93 (Ne.symm ha)).trans e)
  · exact .inr ⟨ln, cl, c, vs, t, (hs.2 93 (Ne.symm ha)).trans e, r⟩
theorem tab_keep (t : Tab I h) (hk : ∀ o, h.get? 93 = some o → h'.get? 93 = some o) (l : Mine.le I I') : Tab I' h' := by
  rcases t with e | ⟨ln, cl, c, vs, t, e, r, u⟩
  · exact .inl (hk _ e)
  · exact .inr ⟨ln, cl, c, vs, t, hk _ e, let ⟨o, r1, r2⟩ := r; ⟨o, l _ _ r1, r2⟩, u⟩
theorem ok_same {a : Addr} (k : Ok P I h) (hs : Heap.SameBut a h h') (ha : a ≠ 93) (hI : I a = none) : Ok P I h' :=
  ⟨fun b o e => (hs.2 b (fun q => by rw [q, hI] at e; cases e)).trans (k.inh b o e), tab_same k.tab hs ha, k.t93, k.prog⟩

-- a name is stored
theorem St.set (S : St P X h₀ I₀ I L m mu h) (hn : h'.Ns L m') (hs : Heap.SameBut L h h') : St P X h₀ I₀ I L m' mu h' where
  ok := ok_same S.ok hs S.neL S.offL
  ns := hn
  offL := S.offL
  own := fun p hp => ⟨(hs.2 p.1 (S.own p hp).2.2.1).trans (S.own p hp).1, (S.own p hp).2⟩
  nd := S.nd
  base := fun b o n e => (hs.2 b (fun q => by rw [q, S.newL] at e; cases e)).trans (S.base b o n e)
  new := S.new
  le := S.le
  newL := S.newL
  hX := S.hX
  t0 := S.t0
  xs := fun b hb => by
    obtain ⟨o, e⟩ := S.xs b hb
    exact ⟨o, (hs.2 b (fun q => by obtain ⟨o', e'⟩ := S.x0 b hb; rw [q, S.newL] at e'; cases e')).trans e⟩
  x0 := S.x0
-- the first of the frame's own objects turns
theorem St.upd {a : Addr} {o o' : Obj} (S : St P X h₀ I₀ I L m ((a, o) :: mu) h) (hs : Heap.SameBut a h h') (e : h'.get? a = some o') : St P X h₀ I₀ I L m ((a, o') :: mu) h' :=
  have q := S.own (a, o) (.head _)
  { ok := ok_same S.ok hs (S.neM (.head _)) q.2.1
    ns := S.ns.sameBut hs (Ne.symm q.2.2.1)
    offL := S.offL
    own := fun p hp => by
      rcases List.mem_cons.mp hp with rfl | hp
      · exact ⟨e, q.2⟩
      · have ne : p.1 ≠ a := fun e' => (List.nodup_cons.mp S.nd).1 (List.mem_map.mpr ⟨p, hp, e'⟩)
        have z := S.own p (.tail _ hp)
        exact ⟨(hs.2 p.1 ne).trans z.1, z.2⟩
    nd := S.nd
    base := fun b o n e => (hs.2 b (fun r => by rw [r, q.2.2.2] at e; cases e)).trans (S.base b o n e)
    new := S.new
    le := S.le
    newL := S.newL
    hX := S.hX
    t0 := S.t0
    xs := fun b hb => by
      obtain ⟨o, e⟩ := S.xs b hb
      exact ⟨o, (hs.2 b (fun r => by obtain ⟨o', e'⟩ := S.x0 b hb; rw [r, q.2.2.2] at e'; cases e')).trans e⟩
    x0 := S.x0 }
-- the frame's own objects in another order, or fewer
theorem St.sub (S : St P X h₀ I₀ I L m mu h) (hs : ∀ p ∈ mu', p ∈ mu) (nd : (mu'.map (·.1)).Nodup) : St P X h₀ I₀ I L m mu' h :=
  { S with own := fun p hp => S.own p (hs p hp), nd := nd }
theorem St.drop {p : Addr × Obj} (S : St P X h₀ I₀ I L m (p :: mu) h) : St P X h₀ I₀ I L m mu h :=
  S.sub (fun _ hp => .tail _ hp) (List.nodup_cons.mp S.nd).2
theorem St.swap {p q : Addr × Obj} (S : St P X h₀ I₀ I L m (p :: q :: mu) h) : St P X h₀ I₀ I L m (q :: p :: mu) h :=
  S.sub (fun x hx => by
    rcases List.mem_cons.mp hx with rfl | hx
    · exact .tail _ (.head _)
    · rcases List.mem_cons.mp hx with rfl | hx
      · exact .head _
      · exact .tail _ (.tail _ hx)) (by
    have := S.nd
    simp only [List.map_cons, List.nodup_cons, List.mem_cons, not_or] at this ⊢
    exact ⟨⟨Ne.symm this.1.1, this.2.1⟩, this.1.2, this.2.2⟩)
-- something grows behind a call
theorem St.grow (S : St P X h₀ I₀ I L m mu h) (g : Grow h I h' I') : St P X h₀ I₀ I' L m mu h' where
  ok := g.ok S.ok
  ns := by
    obtain ⟨o, es, ep, e, r⟩ := S.ns
    exact ⟨o, es, ep, g.keep _ _ S.neL e, r⟩
  offL := by
    cases e : I' L with
    | none => rfl
    | some o =>
      rcases g.new _ _ e with e' | e'
      · rw [S.offL] at e'; cases e'
      · obtain ⟨o, es, ep, x, r⟩ := S.ns; rw [x] at e'; cases e'
  own := fun p hp => by
    have q := S.own p hp
    refine ⟨g.keep _ _ (S.neM hp) q.1, ?_, q.2.2⟩
    cases e : I' p.1 with
    | none => rfl
    | some o =>
      rcases g.new _ _ e with e' | e'
      · rw [q.2.1] at e'; cases e'
      · rw [q.1] at e'; cases e'
  nd := S.nd
  base := fun b o n e => g.keep b o (fun q => n (q ▸ S.hX)) (S.base b o n e)
  new := fun b o e => by
    rcases g.new _ _ e with e' | e'
    · exact S.new _ _ e'
    · refine .inr ?_
      cases q : h₀.get? b with
      | none => rfl
      | some o' =>
        by_cases n : b ∈ X
        · by_cases n' : b = 93
          · subst n'; rw [(g.ok S.ok).t93] at e; cases e
          · obtain ⟨o, x⟩ := S.xs b n; rw [x] at e'; cases e'
        · rw [S.base b o' n q] at e'; cases e'
  le := S.le.trans g.le
  newL := S.newL
  hX := S.hX
  t0 := S.t0
  xs := fun b hb => by
    obtain ⟨o, e⟩ := S.xs b hb
    by_cases q : b = 93
    · subst q; exact tab_there g.tab
    · exact ⟨o, g.keep b o q e⟩
  x0 := S.x0

theorem push_none {h : Heap} {I : Kn} (k : InH I h) : I h.objs.size = none := by
  cases e : I h.objs.size with
  | none => rfl
  | some o => exact absurd (Heap.lt_size (k _ _ e)) (Nat.lt_irrefl _)
theorem get_size_none (h : Heap) : h.get? h.objs.size = none := by
  cases e : h.get? h.objs.size with
  | none => rfl
  | some o => exact absurd (Heap.lt_size e) (Nat.lt_irrefl _)
-- a new object that stays
theorem Grow.push {o : Obj} (k : Ok P I h) (hf : o.isFreed = false) : Grow h I (h.push o) (put I h.objs.size o) where
  keep := fun _ _ _ e => Heap.get?_push_of_some _ e
  le := le_put (push_none k.inh)
  inh := fun b o' e => by
    by_cases q : b = h.objs.size
    · subst q; rw [put_self] at e; cases e; exact Heap.get?_push_size _ hf
    · rw [put_ne q] at e; exact Heap.get?_push_of_some _ (k.inh _ _ e)
  new := fun b o' e => by
    by_cases q : b = h.objs.size
    · subst q; exact .inr (get_size_none h)
    · rw [put_ne q] at e; exact .inl e
  tab := tab_keep k.tab (fun _ e => Heap.get?_push_of_some _ e) (le_put (push_none k.inh))
-- a new object of the machine's own: nothing is known of it
theorem Grow.silent (k : Ok P I h) (hk : ∀ b o, h.get? b = some o → h'.get? b = some o) : Grow h I h' I where
  keep := fun b o _ e => hk b o e
  le := le.refl _
  inh := fun b o e => hk _ _ (k.inh b o e)
  new := fun _ _ e => .inl e
  tab := tab_keep k.tab (fun _ e => hk _ _ e) (le.refl _)
-- a new object that may turn
theorem St.push {o : Obj} (S : St P X h₀ I₀ I L m mu h) (hf : o.isFreed = false) : St P X h₀ I₀ I L m ((h.objs.size, o) :: mu) (h.push o) :=
  have S' := S.grow (Grow.silent S.ok fun _ _ e => Heap.get?_push_of_some o e)
  { S' with
    own := fun p hp => by
      rcases List.mem_cons.mp hp with rfl | hp
      · refine ⟨Heap.get?_push_size _ hf, push_none S.ok.inh, fun e => Nat.lt_irrefl _ (e ▸ S.ns.lt), ?_⟩
        cases e : h₀.get? h.objs.size with
        | none => rfl
        | some o' =>
          by_cases n : h.objs.size ∈ X
          · obtain ⟨o, x⟩ := S.xs _ n; exact absurd (Heap.lt_size x) (Nat.lt_irrefl _)
          · exact absurd (Heap.lt_size (S.base _ _ n e)) (Nat.lt_irrefl _)
      · exact S'.own p hp
    nd := by
      refine List.nodup_cons.mpr ⟨fun hm => ?_, S.nd⟩
      obtain ⟨p, hp, e⟩ := List.mem_map.mp hm
      exact absurd (Heap.lt_size (S.own p hp).1) (by rw [e]; exact Nat.lt_irrefl _) }
-- from now on it stays
theorem St.freeze {a : Addr} {o : Obj} (S : St P X h₀ I₀ I L m ((a, o) :: mu) h) : St P X h₀ I₀ (put I a o) L m mu h :=
  have q := S.own (a, o) (.head _)
  have l := le_put (o := o) q.2.1
  { ok := ⟨fun b o' e => by
        by_cases r : b = a
        · subst r; rw [put_self] at e; cases e; exact q.1
        · rw [put_ne r] at e; exact S.ok.inh _ _ e, tab_keep S.ok.tab (fun _ e => e) l, (put_ne (Ne.symm (S.neM (.head _)))).trans S.ok.t93, fun b o' e h1 h2 h3 => l _ _ (S.ok.prog b o' e h1 h2 h3)⟩
    ns := S.ns
    offL := (put_ne (Ne.symm q.2.2.1)).trans S.offL
    own := fun p hp => by
      have z := S.own p (.tail _ hp)
      exact ⟨z.1, (put_ne fun e' => (List.nodup_cons.mp S.nd).1 (List.mem_map.mpr ⟨p, hp, e'⟩)).trans z.2.1, z.2.2⟩
    nd := (List.nodup_cons.mp S.nd).2
    base := S.base
    new := fun b o' e => by
      by_cases r : b = a
      · subst r; exact .inr q.2.2.2
      · rw [put_ne r] at e; exact S.new _ _ e
    le := S.le.trans l
    newL := S.newL
    hX := S.hX
    t0 := S.t0
    xs := S.xs
    x0 := S.x0 }
end

-- behind a call: the heap has grown, all else stands
def GrowS (s : Shared) (I : Kn) (s' : Shared) (I' : Kn) : Prop := ∃ h' tk, s' = { s with heap := h', toks := tk } ∧ Grow s.heap I h' I'
theorem GrowS.refl {P : Params} {s : Shared} {I : Kn} (k : Ok P I s.heap) : GrowS s I s I := ⟨s.heap, s.toks, rfl, Grow.refl k⟩
theorem GrowS.trans {P : Params} {s s' s'' : Shared} {I I' I'' : Kn} (k : Ok P I s.heap) (g : GrowS s I s' I') (g' : GrowS s' I' s'' I'') : GrowS s I s'' I'' := by
  obtain ⟨h, t, rfl, g⟩ := g
  obtain ⟨h', t', rfl, g'⟩ := g'
  exact ⟨h', t', rfl, g.trans k g'⟩

-- a tree that comes back: what grows, and what is known of the value
def Ends {α : Type} (prog : Program) (w : World) (A : Around) (I : Kn) (t : Sem α) (R : Kn → α → Prop) (s : Shared) : Prop :=
  wpAny (model prog w) A t (fun v s' => ∃ I', GrowS s I s' I' ∧ R I' v) (fun _ _ => False) s
theorem Ends.use {α : Type} {prog : Program} {w : World} {A : Around} {I : Kn} {t : Sem α} {R : Kn → α → Prop} {s : Shared} {Q : α → Shared → Prop} {E : Value → Shared → Prop} (x : Ends prog w A I t R s)
    (h : ∀ v I' h' tk, Grow s.heap I h' I' → R I' v → Q v { s with heap := h', toks := tk }) : wpAny (model prog w) A t Q E s :=
  wpAny_mono x (fun v s' ⟨I', ⟨h', tk, e, g⟩, r⟩ => by subst e; exact h v I' h' tk g r) fun _ _ f => f.elim
end Mine

-- part LFrame
set_option maxRecDepth 100000
namespace Mine
open PySem PySem.W PySem.W.X PyProof.Rows PySem.Calls

noncomputable def cellO (v : Option Value) : Obj := { cls := .type "cell", data := .cell v }
noncomputable def cellsM (n : Nat) : List (Str × NameKind) → List (Addr × Obj) → List (Addr × Obj)
  | [], acc => acc
  | (_, kind) :: r, acc => if kind == .cell then cellsM (n + 1) r ((n, cellO none) :: acc) else cellsM n r acc

section
variable {P : Params} {X : List Addr} {h₀ h h' : Heap} {I₀ I I' : Kn} {L : Addr} {m m' : Str → Option Value} {mu mu' : List (Addr × Obj)}
theorem St.start {c : Value} (k : Ok P I h) : St P [93] h I I h.objs.size (fun _ => none) [] (h.push { cls := c, data := .dict #[] }) where
  ok := (Grow.silent k fun _ _ e => Heap.get?_push_of_some _ e).ok k
  ns := Heap.Ns.new ..
  offL := push_none k.inh
  own := fun _ hp => nomatch hp
  nd := List.nodup_nil
  base := fun _ _ _ e => Heap.get?_push_of_some _ e
  new := fun _ _ e => .inl e
  le := le.refl _
  newL := get_size_none _
  hX := .head _
  t0 := tab_there k.tab
  xs := fun b hb => by
    rw [List.mem_singleton.mp hb]
    obtain ⟨o, e⟩ := tab_there k.tab
    exact ⟨o, Heap.get?_push_of_some _ e⟩
  x0 := fun b hb => by
    rw [List.mem_singleton.mp hb]
    exact tab_there k.tab
theorem St.cells : ∀ (names : List (Str × NameKind)) (h : Heap) (mu : List (Addr × Obj)), St P X h₀ I₀ I L m mu h → St P X h₀ I₀ I L m (cellsM h.objs.size names mu) (pushCells h names)
  | [], _, _, S => S
  | (_, kind) :: r, h, mu, S => by
    unfold pushCells cellsM
    split
    · have := St.cells r _ _ (S.push (o := cellO none) rfl)
      rwa [Heap.size_push] at this
    · exact St.cells r h mu S
end

section
variable {P : Params} {M : Model} {A : Around} {E : Value → Shared → Prop} {s : Shared} {I : Kn}
theorem newEnv_St {scope : Scope} {globals : Addr} {cl : List (Str × Addr)} {binds : List (Str × Value)} {qual : Str} {func : Option Addr} {code : Value} {around : Option Env} {builtins : Addr} {Q : Env → Shared → Prop}
    (k : Ok P I s.heap) (hk : scope.kind = .function) (hl : ∀ x ∈ binds, scope.names.lookup x.1 = some .local)
    (hQ : ∀ h₁ tk, St P [93] s.heap I I s.heap.objs.size (fun x => binds.reverse.lookup x) (cellsM (s.heap.objs.size + 1) scope.names []) h₁ →
      Q (newEnv scope s.heap.objs.size globals (cellsFrom (s.heap.objs.size + 1) scope.names cl) qual func code around builtins) { s with heap := h₁, toks := tk }) :
    wpAny M A (newFunctionEnv scope globals cl binds qual func code around builtins) Q E s := by
  have go : ∀ (c : Value) (env : Env), env.scope = scope → env.locals = s.heap.objs.size → (∀ h₁ tk, St P [93] s.heap I I s.heap.objs.size (fun x => binds.reverse.lookup x) (cellsM (s.heap.objs.size + 1) scope.names []) h₁ → Q env { s with heap := h₁, toks := tk }) →
      wpAny M A (forIn binds PUnit.unit (fun x r => do let _ ← storeName env x.1 x.2; pure (ForInStep.yield PUnit.unit)) >>= fun _ => pure env) Q E { s with heap := pushCells (s.heap.push { cls := c, data := .dict #[] }) scope.names } := by
    intro c env e1 e2 hQ
    have S0 : St P [93] s.heap I I s.heap.objs.size (fun _ => none) (cellsM (s.heap.objs.size + 1) scope.names []) (pushCells (s.heap.push { cls := c, data := .dict #[] }) scope.names) := by
      have := St.cells scope.names _ _ (St.start (c := c) k)
      rwa [Heap.size_push] at this
    refine wpAny_bind (wpAny_forIn_list _ (fun rest _ s' => ∃ done h' tk, binds = done ++ rest ∧ s' = { s with heap := h', toks := tk } ∧ St P [93] s.heap I I s.heap.objs.size (fun x => done.reverse.lookup x) (cellsM (s.heap.objs.size + 1) scope.names []) h') _ ?_ ?_ binds _ ⟨[], _, _, rfl, rfl, S0⟩)
    · rintro ⟨n, v⟩ rest b s' ⟨done, h', tk, eb, rfl, S⟩
      have hn : env.kindOf n = some .local := by
        show env.scope.names.lookup n = _
        rw [e1]; exact hl (n, v) (by rw [eb]; simp)
      refine wpAny_bind (wpAny_storeName_local (m := fun x => done.reverse.lookup x) hn (by rw [e2]; exact S.ns) (fun h'' hn' hs' => ?_) (by rw [e1, hk]; rfl))
      refine wpAny_pure ⟨done ++ [(n, v)], h'', _, by rw [eb]; simp, rfl, ?_⟩
      rw [lookup_reverse_snoc]
      rw [e2] at hn' hs'
      exact S.set hn' hs'
    · rintro b s' ⟨done, h', tk, eb, rfl, S⟩
      rw [List.append_nil] at eb
      subst eb
      exact wpAny_pure (hQ _ _ S)
  have size1 : ∀ c : Value, ({ s with heap := s.heap.push { cls := c, data := .dict #[] } } : Shared).heap.objs.size = s.heap.objs.size + 1 := fun _ => Heap.size_push ..
  cases around with
  | none =>
    simp only [newFunctionEnv, Option.isSome_none, Bool.false_eq_true, if_false]
    refine wpAny_bind (wpAny_alloc ?_)
    refine wpAny_bind (wpAny_layCells _ (fun name kind cells => by cases hkc : kind == NameKind.cell <;> simp) _ _ _ _ ?_)
    rw [size1]
    exact go _ _ rfl rfl hQ
  | some outer =>
    simp only [newFunctionEnv, Option.isSome_some, if_true]
    refine wpAny_bind (wpAny_alloc ?_)
    refine wpAny_bind (wpAny_layCells _ (fun name kind cells => by cases hkc : kind == NameKind.cell <;> simp) _ _ _ _ ?_)
    rw [size1]
    exact go _ _ rfl rfl hQ
end

-- a name is stored
noncomputable def setM (m : Str → Option Value) (x : Str) (v : Value) : Str → Option Value := fun y => if y = x then some v else m y
-- a def's frame
noncomputable def envF (fd : FuncData) (f L : Addr) : Env := newEnv fd.scope L fd.globals (cellsFrom (L + 1) fd.scope.names fd.closure) (fd.qualname ++ ".<locals>.") (some f) fd.code none fd.builtins

-- room on the stack
structure Room (A : Around) (n : Nat) : Prop where
  hd : A.handled = none
  dp : A.depth + n ≤ 900
  un : A.units + 16 * n ≤ 9000
theorem Room.mono {A : Around} {n k : Nat} (r : Room A n) (h : k ≤ n) : Room A k := ⟨r.hd, by have := r.dp; omega, by have := r.un; omega⟩
theorem Room.deeper {A : Around} {env : Env} {n : Nat} (r : Room A (n + 1)) : Room (A.deeper env) n := ⟨r.hd, by have := r.dp; show A.depth + 1 + n ≤ 900; omega, by have := r.un; show A.units + 3 + 16 * n ≤ 9000; omega⟩
theorem Room.in1 {A : Around} {n : Nat} (r : Room A (n + 1)) : Room A.in1 n := ⟨r.hd, by have := r.dp; show A.depth + n ≤ 900; omega, by have := r.un; show A.units + 1 + 16 * n ≤ 9000; omega⟩
theorem Room.lim {A : Around} {n : Nat} (r : Room A n) : A.depth < recursionLimit := by have := r.dp; unfold recursionLimit; omega
theorem Room.line {A : Around} {n : Nat} (r : Room A n) : A.units < cLine := by have := r.un; unfold cLine; omega
theorem Room.mark {A : Around} {n : Nat} (r : Room A n) : Room (A.mark none) n := ⟨r.hd, r.dp, r.un⟩

section
variable {P : Params} {prog : Program} {w : World} {A : Around} {s : Shared} {I : Kn}
theorem nolimit (k : Ok w.params I s.heap) : s.heap.NoLimit := by
  have e : I 2 = some _ := k.prog 2 _ (by rfl) (by decide) (by decide) (by decide)
  exact ⟨_, ⟨_, _, _, k.inh _ _ e, rfl, fun _ he => by simp at he, fun _ => rfl⟩, rfl⟩

def CodeI (I : Kn) (cd : Value) (q : Str) : Prop := ∃ c o vs t, cd = .ref c ∧ I c = some o ∧ o.data = .fields vs ∧ vs[1]? = some (.str q t)
theorem CodeI.rec {h : Heap} {cd : Value} {q : Str} (x : CodeI I cd q) (k : InH I h) : h.CodeRec cd q := let ⟨c, o, vs, t, e, g, r⟩ := x; ⟨c, o, vs, t, e, k _ _ g, r⟩

-- a code that comes back
def EndsC (prog : Program) (w : World) (A : Around) (I : Kn) (c : Code) (R : Kn → Value → Prop) (s : Shared) : Prop :=
  codeAny (model prog w) A c (fun r s' => match r with | .ok (.ret v) => ∃ I', GrowS s I s' I' ∧ R I' v | .ok _ => False | .error _ => False) s
theorem Ends.of_code {f : Value} {pos : List Value} {kw : List (Str × Value)} {R : Kn → Value → Prop} (x : EndsC prog w A I (.call f ⟨pos, kw⟩) R s) : Ends prog w A I (call f pos kw) R s := wpAny_call x
-- a def's call, its frame
theorem enterE {fd : FuncData} {f : Addr} {o : Obj} {pos : List Value} {kw : List (Str × Value)} {binds : List (Str × Value)} {body : List Stmt} {R : Kn → Value → Prop} (mu : Addr → List (Addr × Obj))
    (k : Ok w.params I s.heap) (hr : A.depth < recursionLimit) (ho : I f = some o) (hdata : o.data = .func fd) (hcd : CodeI I fd.code fd.qualname) (hbody : fd.body = .stmts body) (hbind : bindArgs fd ⟨pos, kw⟩ = pure binds)
    (hl : ∀ x ∈ binds, fd.scope.names.lookup x.1 = some .local)
    (h : ∀ L h₁ tk, L = s.heap.objs.size → St w.params [93] s.heap I I L (fun x => binds.reverse.lookup x) (mu L) h₁ →
      wpAny (model prog w) (A.deeper (envF fd f L))
        (execs body (envF fd f L))
        (fun fl s' => ∃ I', GrowS s I s' I' ∧ R I' (match fl with | .ret v => v | _ => .none)) (fun _ _ => False) { s with heap := h₁, toks := tk })
    (hmu : ∀ L, cellsM (L + 1) fd.scope.names [] = mu L := by intro _; rfl) (hco : fd.scope.isCoroutine = false := by rfl) (hgen : fd.scope.isGenerator = false := by rfl) (hk : fd.scope.kind = .function := by rfl) :
    EndsC prog w A I (.call (.ref f) ⟨pos, kw⟩) R s := by
  refine codeAny_call_function hr (k.inh _ _ ho) hdata hco hgen hbody (hcd.rec k.inh) ?_
  rw [hbind]
  refine wpAny_pure (newEnv_St k hk hl fun h₁ tk S => ⟨nolimit (S.ok), codeAny_func ?_⟩)
  rw [hmu] at S
  exact wpAny_mono (h _ h₁ tk rfl S) (fun _ _ x => x) fun _ _ f => f.elim
theorem enter {fd : FuncData} {f : Addr} {o : Obj} {pos : List Value} {kw : List (Str × Value)} {binds : List (Str × Value)} {body : List Stmt} {R : Kn → Value → Prop} (mu : Addr → List (Addr × Obj))
    (k : Ok w.params I s.heap) (hr : A.depth < recursionLimit) (ho : I f = some o) (hdata : o.data = .func fd) (hcd : CodeI I fd.code fd.qualname) (hbody : fd.body = .stmts body) (hbind : bindArgs fd ⟨pos, kw⟩ = pure binds)
    (hl : ∀ x ∈ binds, fd.scope.names.lookup x.1 = some .local)
    (h : ∀ L h₁ tk, L = s.heap.objs.size → St w.params [93] s.heap I I L (fun x => binds.reverse.lookup x) (mu L) h₁ →
      wpAny (model prog w) (A.deeper (envF fd f L))
        (execs body (envF fd f L))
        (fun fl s' => ∃ I', GrowS s I s' I' ∧ R I' (match fl with | .ret v => v | _ => .none)) (fun _ _ => False) { s with heap := h₁, toks := tk })
    (hmu : ∀ L, cellsM (L + 1) fd.scope.names [] = mu L := by intro _; rfl) (hco : fd.scope.isCoroutine = false := by rfl) (hgen : fd.scope.isGenerator = false := by rfl) (hk : fd.scope.kind = .function := by rfl) :
    Ends prog w A I (call (.ref f) pos kw) R s :=
  Ends.of_code (enterE mu k hr ho hdata hcd hbody hbind hl h hmu hco hgen hk)
-- the frame's end
theorem leave {I' : Kn} {L : Addr} {m : Str → Option Value} {mu : List (Addr × Obj)} {R : Kn → Value → Prop} {s' : Shared} {v : Value} (S : St P [93] s.heap I I' L m mu s'.heap) (hs : ∃ h' tk, s' = { s with heap := h', toks := tk }) (r : R I' v) :
    ∃ I', GrowS s I s' I' ∧ R I' v := by
  obtain ⟨h', tk, rfl⟩ := hs
  exact ⟨I', ⟨h', tk, rfl, S.exit⟩, r⟩
end
end Mine

-- part LRules
set_option maxRecDepth 100000
namespace Mine
open PySem PySem.W PySem.W.X PyProof.Rows PySem.Calls

-- all but the heap and the tokens stands
def Same (s s' : Shared) : Prop := ∃ h' tk, s' = { s with heap := h', toks := tk }
theorem Same.refl (s : Shared) : Same s s := ⟨s.heap, s.toks, rfl⟩
theorem Same.trans {a b c : Shared} (x : Same a b) (y : Same b c) : Same a c := by
  obtain ⟨h, t, rfl⟩ := x; obtain ⟨h', t', rfl⟩ := y; exact ⟨h', t', rfl⟩
theorem Same.co' {a b c : Shared} (x : Same a b) (y : Same a c) : Same b c := by
  obtain ⟨h, t, rfl⟩ := x; obtain ⟨h', t', rfl⟩ := y; exact ⟨h', t', rfl⟩
theorem Same.mk {s : Shared} {h' : Heap} {tk : Nat} : Same s { s with heap := h', toks := tk } := ⟨h', tk, rfl⟩
theorem Same.heap {s s' : Shared} (x : Same s s') {h' : Heap} : Same s { s' with heap := h' } := by obtain ⟨h, t, rfl⟩ := x; exact ⟨h', t, rfl⟩
theorem Same.both {s s' : Shared} (x : Same s s') {h' : Heap} {tk : Nat} : Same s { s' with heap := h', toks := tk } := by obtain ⟨h, t, rfl⟩ := x; exact ⟨h', tk, rfl⟩
theorem Same.toks {s s' : Shared} (x : Same s s') {tk : Nat} : Same s { s' with toks := tk } := by obtain ⟨h, t, rfl⟩ := x; exact ⟨h, tk, rfl⟩

theorem genQ {α : Type} {M : Model} {A : Around} {t : Sem α} {Q : α → Shared → Prop} {E : Value → Shared → Prop} {s : Shared} (h : ∀ Q' : α → Shared → Prop, (∀ v s', Q v s' → Q' v s') → wpAny M A t Q' E s) : wpAny M A t Q E s := h Q fun _ _ x => x
theorem genT {α β : Type} {M : Model} {A : Around} {t : Sem α} {u : α → Sem β} {Q : β → Shared → Prop} {E E' : Value → Shared → Prop} {s : Shared} (h : ∀ Q' : β → Shared → Prop, (∀ f s', Q f s' → Q' f s') → wpAny M A t (fun x s₂ => wpAny M A (u x) Q' E' s₂) E s) : wpAny M A t (fun x s₂ => wpAny M A (u x) Q E' s₂) E s := h Q fun _ _ x => x
noncomputable abbrev NoE : Value → Shared → Prop := fun _ _ => False
theorem noE {α : Type} {M : Model} {A : Around} {t : Sem α} {Q : α → Shared → Prop} {E : Value → Shared → Prop} {s : Shared} (h : wpAny M A t Q NoE s) : wpAny M A t Q E s := wpAny_mono h (fun _ _ x => x) fun _ _ f => f.elim

section
variable {P : Params} {prog : Program} {w : World} {M : Model} {A : Around} {E : Value → Shared → Prop} {s : Shared} {env : Env} {X : List Addr} {h₀ : Heap} {I₀ I : Kn} {L : Addr} {m : Str → Option Value} {mu : List (Addr × Obj)}

theorem ld {x : Str} {pos : Pos} {v : Value} {Q : Value → Shared → Prop} (S : St P X h₀ I₀ I L m mu s.heap) (hv : m x = some v) (h : Q v s)
    (hk : env.scope.kind = .function := by rfl) (hl : env.kindOf x = some .local := by rfl) (hL : env.locals = L := by rfl) (hd : (x == ("__debug__" : Str)) = false := by decide) :
    wpAny M A (eval (.Name x pos) env) Q E s := wpAny_Name (wpAny_loadName_local hk hl (hL ▸ S.ns) hv h) hd
theorem ldCell {x : Str} {pos : Pos} {c : Addr} {v : Value} {Q : Value → Shared → Prop} (hc : env.cells.lookup x = some c) (hv : s.heap.get? c = some (cellO (some v))) (h : Q v s)
    (hk : env.scope.kind = .function := by rfl) (hl : env.kindOf x = some .cell ∨ env.kindOf x = some .free := by first | exact .inl rfl | exact .inr rfl) (hd : (x == ("__debug__" : Str)) = false := by decide) (hn : (x == ("__classdict__" : Str)) = false := by decide) :
    wpAny M A (eval (.Name x pos) env) Q E s := by
  refine wpAny_Name ?_ hd
  rcases hl with hl | hl
  · exact wpAny_loadName_cell hk hl hc ⟨_, hv, rfl⟩ h
  · exact wpAny_loadName_free hk hl hc ⟨_, hv, rfl⟩ h hn
theorem nsGet_I {ns : Addr} {name : Str} {o : Obj} {r : Option Value} {Q : Option Value → Shared → Prop} (ho : s.heap.get? ns = some o) (e : lookIn name o = some r) (h : Q r s) : wpAny M A (nsGet ns name) Q E s := by
  unfold nsGet
  refine wpAny_bind (wpAny_loadPart ho ?_)
  rw [nsLook_of e]
  exact wpAny_pure h
-- a name of the text's top
theorem ldG {x : Str} {pos : Pos} {v : Value} {Q : Value → Shared → Prop} (k : Ok P I s.heap) (e : ((KK P).lookup 3).bind (lookIn x) = some (some v)) (h : Q v s)
    (hk : env.scope.kind = .function := by rfl) (hl : env.kindOf x = some .globalImplicit := by rfl) (hg : env.globals = 3 := by rfl) (hd : (x == ("__debug__" : Str)) = false := by decide) :
    wpAny M A (eval (.Name x pos) env) Q E s := by
  obtain ⟨o, ho, he⟩ := Option.bind_eq_some_iff.mp e
  refine wpAny_Name ?_ hd
  unfold loadName
  simp only [Env.blockKind, hk, hl, ScopeKind.isAnnotationScope, Bool.false_and, Bool.false_eq_true, if_false]
  unfold loadGlobal
  rw [hg]
  exact wpAny_bind (nsGet_I (k.inh _ _ (k.prog 3 o ho (by decide) (by decide) (by decide))) he (wpAny_pure h))
-- a built-in name
theorem ldB {x : Str} {pos : Pos} {v : Value} {Q : Value → Shared → Prop} (k : Ok P I s.heap) (e0 : ((KK P).lookup 3).bind (lookIn x) = some none) (e : ((KK P).lookup 0).bind (lookIn x) = some (some v)) (h : Q v s)
    (hk : env.scope.kind = .function := by rfl) (hl : env.kindOf x = some .globalImplicit := by rfl) (hg : env.globals = 3 := by rfl) (hb : env.builtins = 0 := by rfl) (hd : (x == ("__debug__" : Str)) = false := by decide) :
    wpAny M A (eval (.Name x pos) env) Q E s := by
  obtain ⟨o, ho, he⟩ := Option.bind_eq_some_iff.mp e
  obtain ⟨o0, ho0, he0⟩ := Option.bind_eq_some_iff.mp e0
  refine wpAny_Name ?_ hd
  unfold loadName
  simp only [Env.blockKind, hk, hl, ScopeKind.isAnnotationScope, Bool.false_and, Bool.false_eq_true, if_false]
  unfold loadGlobal
  rw [hg, hb]
  exact wpAny_bind (nsGet_I (k.inh _ _ (k.prog 3 o0 ho0 (by decide) (by decide) (by decide))) he0 (wpAny_bind (nsGet_I (k.inh _ _ (k.prog 0 o ho (by decide) (by decide) (by decide))) he (wpAny_pure h))))
theorem st {x : Str} {v : Value} {Q : Unit → Shared → Prop} (S : St P X h₀ I₀ I L m mu s.heap)
    (h : ∀ h' tk, St P X h₀ I₀ I L (setM m x v) mu h' → Q () { s with heap := h', toks := tk })
    (hk : env.scope.kind = .function := by rfl) (hl : env.kindOf x = some .local := by rfl) (hL : env.locals = L := by rfl) : wpAny M A (storeName env x v) Q E s := by
  subst hL
  exact wpAny_storeName_local hl S.ns (fun h' hn hs => h h' _ (S.set hn hs)) (by rw [hk]; rfl)
-- the frame's own cell, the first of its own objects
theorem stCell {x : Str} {c : Addr} {v₀ : Option Value} {v : Value} {Q : Unit → Shared → Prop} (S : St P X h₀ I₀ I L m ((c, cellO v₀) :: mu) s.heap) (hc : env.cells.lookup x = some c)
    (h : ∀ h', St P X h₀ I₀ I L m ((c, cellO (some v)) :: mu) h' → Q () { s with heap := h' })
    (hk : env.scope.kind = .function := by rfl) (hl : env.kindOf x = some .cell := by rfl) : wpAny M A (storeName env x v) Q E s := by
  have q := S.own _ (.head _)
  unfold storeName
  simp only [hl, hk]
  refine wpAny_bind (wpAny_cellOf hc ?_)
  unfold cellSet
  refine wpAny_bind (wpAny_load q.1 ?_)
  exact wpAny_update q.1 (h _ (S.upd (Heap.SameBut.update ..) (Heap.get?_update_self _ q.1 rfl)))
end

section
variable {P : Params} {prog : Program} {w : World} {M : Model} {A : Around} {E : Value → Shared → Prop} {s : Shared} {env : Env} {X : List Addr} {h₀ : Heap} {I₀ I : Kn} {L : Addr} {m : Str → Option Value} {mu : List (Addr × Obj)}

-- a statement that goes on: what stands behind it becomes a letter
theorem execs_consN {st : Stmt} {rest : List Stmt} {Q : Flow → Shared → Prop} (h : ∀ Q' : Flow → Shared → Prop, (∀ s', wpAny M A (execs rest env) Q E s' → Q' .next s') → wpAny M A (exec st env) Q' E s) : wpAny M A (execs (st :: rest) env) Q E s :=
  wpAny_execs_cons (h _ fun _ x => x)
theorem forLoop_F {R : Result → Shared → Prop} {target : PySem.Expr} {it : Value} {body : List Stmt} (J : Nat → Shared → Prop)
    (turn : ∀ n s, J n s → wpAny (model prog w) A (pyNext it) (fun r s₁ => match r with
      | none => R (.ok .next) s₁
      | some v => wpAny (model prog w) A (letOwnedTupleGo target it v) (fun _ s₂ => wpAny (model prog w) A (assign target env v) (fun _ s₃ => wpAny (model prog w) A (execs body env) (fun f s₄ => match f with
          | .next | .cont => ∃ m, m < n ∧ J m s₄
          | .brk => R (.ok .next) s₄
          | .ret v => R (.ok (.ret v)) s₄) NoE s₃) NoE s₂) NoE s₁) NoE s)
    (n : Nat) (h : J n s) : codeAny (model prog w) A (.forLoop target it body [] env) R s := by
  refine codeAny_loop' rfl J (fun n s hI => ?_) n h
  show wpAny _ _ ((forTurn target it body [] env).onRaise (fun x => do noteFrame x env; theTreesLotGoes x)) _ _ s
  refine wpAny_noted (noE ?_)
  simp only [forTurn]
  refine wpAny_bind (wpAny_standAt (wpAny_bind (wpAny_onRaise (wpAny_mono (turn n s hI) (fun r s₁ h₁ => ?_) fun _ _ h' => h'.elim))))
  cases r with
  | none => exact wpAny_pure (.inr ⟨rfl, codeAny_block (wpAny_execs_nil h₁)⟩)
  | some v =>
    refine wpAny_bind (wpAny_mono h₁ (fun _ s₂ h₂ => wpAny_bind (wpAny_mono h₂ (fun _ s₃ h₃ => wpAny_bind (wpAny_mono h₃ (fun f s₄ h₄ => ?_) fun _ _ h' => h')) fun _ _ h' => h')) fun _ _ h' => h')
    cases f with
    | next => exact wpAny_pure (.inl ⟨rfl, h₄⟩)
    | cont => exact wpAny_pure (.inl ⟨rfl, h₄⟩)
    | brk => exact wpAny_pure h₄
    | ret v => exact wpAny_pure h₄

noncomputable abbrev listO (vs : List Value) (n : Nat) : Obj := { cls := .type "list", data := .seq vs.toArray n }
noncomputable abbrev tupO (vs : List Value) (n : Nat) : Obj := { cls := .type "tuple", data := .seq vs.toArray n }

-- a loop from a list's iterator on
theorem for_core {target : PySem.Expr} {body : List Stmt} {l : Addr} {vs : List Value} {ep : Nat} {Q : Flow → Shared → Prop} (hh : A.handled = none) (hl : I l = some (listO vs ep)) {itA : Addr} {oit0 : Obj} (S : St P X h₀ I₀ I L m ((itA, oit0) :: mu) s.heap) (hc0 : oit0.cls = .type "list_iterator") (hd0 : oit0.data = .fields #[.ref l, .int 0 0])
    (hT : (∀ it v, letOwnedTupleGo target it v = pure ()) ∨ (∃ elts x1 pos, target = .Tuple elts x1 pos ∧ ∀ v ∈ vs, ∃ T, v = Value.ref T))
    (J : Nat → Kn → (Str → Option Value) → List (Addr × Obj) → Prop) (h0 : J 0 I m mu)
    (turn : ∀ i v I₁ m₁ mu₁ s₁ it oit, vs[i]? = some v → le I I₁ → J i I₁ m₁ mu₁ → St P X h₀ I₀ I₁ L m₁ ((it, oit) :: mu₁) s₁.heap → Same s s₁ →
      wpAny (model prog w) A (assign target env v) (fun _ s₂ => wpAny (model prog w) A (execs body env) (fun f s₃ => match f with
        | .next | .cont => ∃ I₂ m₂ mu₂, Same s s₃ ∧ le I₁ I₂ ∧ J (i + 1) I₂ m₂ mu₂ ∧ St P X h₀ I₀ I₂ L m₂ ((it, oit) :: mu₂) s₃.heap
        | .brk => Q .next s₃
        | .ret v => Q (.ret v) s₃) NoE s₂) NoE s₁)
    (done : ∀ I₁ m₁ mu₁ s₁, le I I₁ → J vs.length I₁ m₁ mu₁ → St P X h₀ I₀ I₁ L m₁ mu₁ s₁.heap → Same s s₁ → Q .next s₁) :
    codeAny (model prog w) A (.forLoop target (.ref itA) body [] env) (fun r s' => match r with | .ok f => Q f s' | .error e => cameBackBy (model prog w) A env E e s') s := by
  have hl' : ∀ I₁ h, le I I₁ → InH I₁ h → h.IsList l vs.toArray := fun I₁ h a b => ⟨_, b _ _ (a _ _ hl), rfl, ep, rfl⟩
  refine forLoop_F (fun n s' => ∃ i I₁ m₁ mu₁ oit, Same s s' ∧ i ≤ vs.length ∧ n = vs.length + 1 - i ∧ le I I₁ ∧ J i I₁ m₁ mu₁ ∧ oit.cls = .type "list_iterator" ∧ oit.data = .fields #[.ref l, .int i 0] ∧
    St P X h₀ I₀ I₁ L m₁ ((itA, oit) :: mu₁) s'.heap) ?_ (vs.length + 1) ⟨0, I, m, mu, _, Same.refl _, Nat.zero_le _, rfl, le.refl _, h0, hc0, hd0, S⟩
  rintro n s' ⟨i, I₁, m₁, mu₁, oit, hs, hi, rfl, hle, hJ, hc, hd, S'⟩
  have q := S'.own _ (.head _)
  have hit : s'.heap.IsListIter itA l i := ⟨_, q.1, hc, hd⟩
  have hl1 := hl' I₁ _ hle S'.ok.inh
  cases hv : vs[i]? with
  | none =>
    have e : i = vs.length := Nat.le_antisymm hi (by simpa using hv)
    subst e
    refine wpAny_pyNext_list_end hh hit hl1 (by simpa using hv) fun h' he => ?_
    have hkeep : ∀ b o, b ≠ itA → s'.heap.get? b = some o → h'.get? b = some o := fun b o n e => he b o n e
    refine done I₁ m₁ mu₁ _ hle hJ ?_ hs.heap
    have D := S'.drop
    exact { ok := ⟨fun b o e => hkeep b o (fun r => by rw [r, q.2.1] at e; cases e) (D.ok.inh b o e), tab_keep D.ok.tab (fun o e => hkeep _ o (Ne.symm (S'.neM (.head _))) e) (le.refl _), D.ok.t93, D.ok.prog⟩
            ns := by
              obtain ⟨o, es, ep, e, r⟩ := D.ns
              exact ⟨o, es, ep, hkeep _ o (Ne.symm q.2.2.1) e, r⟩
            offL := D.offL
            own := fun p hp => ⟨hkeep _ _ (fun e' => (List.nodup_cons.mp S'.nd).1 (List.mem_map.mpr ⟨p, hp, e'⟩)) (D.own p hp).1, (D.own p hp).2⟩
            nd := D.nd
            base := fun b o n e => hkeep b o (fun r => by rw [r, q.2.2.2] at e; cases e) (D.base b o n e)
            new := D.new
            le := D.le
            newL := D.newL
            hX := D.hX
            t0 := D.t0
            xs := fun b hb => by
              obtain ⟨o, e⟩ := D.xs b hb
              exact ⟨o, hkeep b o (fun r => by obtain ⟨o', e'⟩ := D.x0 b hb; rw [r, q.2.2.2] at e'; cases e') e⟩
            x0 := D.x0 }
  | some v =>
    have hlt : i < vs.length := (List.getElem?_eq_some_iff.mp hv).1
    refine wpAny_pyNext_list_item hit hl1 (by simpa using hv) fun h' hit' hs' => ?_
    obtain ⟨oit', e', hc', hd'⟩ := id hit'
    have S2 : St P X h₀ I₀ I₁ L m₁ ((itA, oit') :: mu₁) h' := S'.upd hs' e'
    have go : wpAny (model prog w) A (letOwnedTupleGo target (.ref itA) v) (fun _ s₂ => s₂ = { s' with heap := h' }) NoE { s' with heap := h' } := by
      rcases hT with hT | ⟨elts, x1, pos, rfl, hT⟩
      · rw [hT]; exact wpAny_pure rfl
      · obtain ⟨T, rfl⟩ := hT v (List.mem_of_getElem? hv)
        exact wpAny_letOwnedTupleGo_listiter hit' rfl
    refine wpAny_mono go (fun _ s₂ e₂ => ?_) fun _ _ f => f
    subst e₂
    refine wpAny_mono (turn i v I₁ m₁ mu₁ { s' with heap := h' } _ oit' hv hle hJ S2 hs.heap) (fun _ s₂ h₂ => wpAny_mono h₂ (fun f s₃ h₃ => ?_) fun _ _ f => f) fun _ _ f => f
    cases f with
    | next =>
      obtain ⟨I₂, m₂, mu₂, a, b, c, d⟩ := h₃
      exact ⟨vs.length + 1 - (i + 1), by omega, i + 1, I₂, m₂, mu₂, oit', a, hlt, rfl, hle.trans b, c, hc', by simpa using hd', d⟩
    | cont =>
      obtain ⟨I₂, m₂, mu₂, a, b, c, d⟩ := h₃
      exact ⟨vs.length + 1 - (i + 1), by omega, i + 1, I₂, m₂, mu₂, oit', a, hlt, rfl, hle.trans b, c, hc', by simpa using hd', d⟩
    | brk => exact h₃
    | ret v => exact h₃
-- a loop over a list's iterator
theorem for_liter {target : PySem.Expr} {body : List Stmt} {l : Addr} {vs : List Value} {ep : Nat} {Q : Flow → Shared → Prop} (hh : A.handled = none) (hl : I l = some (listO vs ep)) {itA : Addr} {oit0 : Obj} (S : St P X h₀ I₀ I L m ((itA, oit0) :: mu) s.heap) (hc0 : oit0.cls = .type "list_iterator") (hd0 : oit0.data = .fields #[.ref l, .int 0 0])
    (hT : (∀ it v, letOwnedTupleGo target it v = pure ()) ∨ (∃ elts x1 pos, target = .Tuple elts x1 pos ∧ ∀ v ∈ vs, ∃ T, v = Value.ref T))
    (J : Nat → Kn → (Str → Option Value) → List (Addr × Obj) → Prop) (h0 : J 0 I m mu)
    (turn : ∀ i v I₁ m₁ mu₁ s₁ it oit, vs[i]? = some v → le I I₁ → J i I₁ m₁ mu₁ → St P X h₀ I₀ I₁ L m₁ ((it, oit) :: mu₁) s₁.heap → Same s s₁ →
      wpAny (model prog w) A (assign target env v) (fun _ s₂ => wpAny (model prog w) A (execs body env) (fun f s₃ => match f with
        | .next | .cont => ∃ I₂ m₂ mu₂, Same s s₃ ∧ le I₁ I₂ ∧ J (i + 1) I₂ m₂ mu₂ ∧ St P X h₀ I₀ I₂ L m₂ ((it, oit) :: mu₂) s₃.heap
        | .brk => Q .next s₃
        | .ret v => Q (.ret v) s₃) NoE s₂) NoE s₁)
    (done : ∀ I₁ m₁ mu₁ s₁, le I I₁ → J vs.length I₁ m₁ mu₁ → St P X h₀ I₀ I₁ L m₁ mu₁ s₁.heap → Same s s₁ → Q .next s₁) :
    wpAny (model prog w) A (pyIter (.ref itA)) (fun it s₂ => codeAny (model prog w) A (.forLoop target it body [] env) (fun r s' => match r with | .ok f => Q f s' | .error e => cameBackBy (model prog w) A env E e s') s₂) E s :=
  wpAny_pyIter_listiter (i := 0) ⟨_, (S.own _ (.head _)).1, hc0, hd0⟩ (for_core hh hl S hc0 hd0 hT J h0 turn done)
-- a loop over a list that stays
theorem for_list {target : PySem.Expr} {body : List Stmt} {l : Addr} {vs : List Value} {ep : Nat} {Q : Flow → Shared → Prop} (hh : A.handled = none) (hl : I l = some (listO vs ep)) (S : St P X h₀ I₀ I L m mu s.heap)
    (hT : (∀ it v, letOwnedTupleGo target it v = pure ()) ∨ (∃ elts x1 pos, target = .Tuple elts x1 pos ∧ ∀ v ∈ vs, ∃ T, v = Value.ref T))
    (J : Nat → Kn → (Str → Option Value) → List (Addr × Obj) → Prop) (h0 : J 0 I m mu)
    (turn : ∀ i v I₁ m₁ mu₁ s₁ it oit, vs[i]? = some v → le I I₁ → J i I₁ m₁ mu₁ → St P X h₀ I₀ I₁ L m₁ ((it, oit) :: mu₁) s₁.heap → Same s s₁ →
      wpAny (model prog w) A (assign target env v) (fun _ s₂ => wpAny (model prog w) A (execs body env) (fun f s₃ => match f with
        | .next | .cont => ∃ I₂ m₂ mu₂, Same s s₃ ∧ le I₁ I₂ ∧ J (i + 1) I₂ m₂ mu₂ ∧ St P X h₀ I₀ I₂ L m₂ ((it, oit) :: mu₂) s₃.heap
        | .brk => Q .next s₃
        | .ret v => Q (.ret v) s₃) NoE s₂) NoE s₁)
    (done : ∀ I₁ m₁ mu₁ s₁, le I I₁ → J vs.length I₁ m₁ mu₁ → St P X h₀ I₀ I₁ L m₁ mu₁ s₁.heap → Same s s₁ → Q .next s₁) :
    wpAny (model prog w) A (pyIter (.ref l)) (fun it s₂ => codeAny (model prog w) A (.forLoop target it body [] env) (fun r s' => match r with | .ok f => Q f s' | .error e => cameBackBy (model prog w) A env E e s') s₂) E s := by
  refine wpAny_pyIter_list ⟨_, S.ok.inh _ _ hl, rfl, ep, rfl⟩ ?_
  have hs : Same s { s with heap := s.heap.push { cls := .type "list_iterator", data := .fields #[.ref l, .int 0 0] } } := ⟨_, _, rfl⟩
  refine for_core hh hl (S.push rfl) rfl rfl hT J h0 (fun i v I₁ m₁ mu₁ s₁ it oit hv hle hJ S₁ h₁ => ?_) (fun I₁ m₁ mu₁ s₁ hle hJ S₁ h₁ => done I₁ m₁ mu₁ s₁ hle hJ S₁ (hs.trans h₁))
  refine wpAny_mono (turn i v I₁ m₁ mu₁ s₁ it oit hv hle hJ S₁ (hs.trans h₁)) (fun _ s₂ h₂ => wpAny_mono h₂ (fun f s₃ h₃ => ?_) fun _ _ f => f) fun _ _ f => f
  cases f with
  | next => obtain ⟨I₂, m₂, mu₂, a, b⟩ := h₃; exact ⟨I₂, m₂, mu₂, hs.co' a, b⟩
  | cont => obtain ⟨I₂, m₂, mu₂, a, b⟩ := h₃; exact ⟨I₂, m₂, mu₂, hs.co' a, b⟩
  | brk => exact h₃
  | ret v => exact h₃
end
end Mine

-- part LData
set_option maxRecDepth 100000
namespace Mine
open PySem PySem.W PySem.W.X PyProof.Rows PySem.Calls

noncomputable def keepKey (p : Addr × Obj) : Bool := p.1 != 16 && (p.1 != 86 && p.1 != 93)
noncomputable def KP (P : Params) : Frag := (KK P).filter keepKey
theorem lookup_filter : ∀ (l : Frag) (a : Addr) (o : Obj), (l.filter keepKey).lookup a = some o → l.lookup a = some o ∧ a ≠ 16 ∧ a ≠ 86 ∧ a ≠ 93
  | [], _, _, e => by cases e
  | (b, x) :: r, a, o, e => by
    rw [List.filter_cons] at e
    by_cases q : a = b
    · subst q
      by_cases k : keepKey (a, x) = true
      · rw [if_pos k, List.lookup_cons, beq_self_eq_true] at e
        refine ⟨by rw [List.lookup_cons, beq_self_eq_true]; exact e, ?_⟩
        simp only [keepKey, Bool.and_eq_true, bne_iff_ne, ne_eq] at k
        exact k
      · rw [if_neg k] at e
        have := lookup_filter r a o e
        exact absurd (by simp [keepKey, this.2]) k
    · have qb : (a == b) = false := beq_eq_false_iff_ne.mpr q
      rw [List.lookup_cons, qb]
      split at e
      · rw [List.lookup_cons, qb] at e; exact lookup_filter r a o e
      · exact lookup_filter r a o e
theorem Ok.kp {P : Params} {I : Kn} {h : Heap} (k : Ok P I h) : (KP P).In h := fun a o e =>
  have z := lookup_filter _ a o e
  k.inh _ _ (k.prog a o z.1 z.2.1 z.2.2.1 z.2.2.2)

structure Row where
  cc : Int
  nc : Int
  tt : Int
  ct : Int
  cal : Int → Option Int
  name : Str

inductive CalO (prog : Program) (w : World) (o : Obj) (kvs : List (Int × Value)) : Prop
  | mk (es : Array DictEntry) (ep : Nat) (h1 : o.ExactDict) (h2 : o.data = .dict es ep) (h3 : KeysOf (intKind prog w) es) (h4 : Pairs (intKind prog w) es.toList kvs) (h5 : (kvs.map (·.1)).Nodup) : CalO prog w o kvs
def CalIs (kvs : List (Int × Value)) (c : Int → Option Int) : Prop := ∀ k, (valueAt kvs k = none ∧ c k = none) ∨ ∃ n t, valueAt kvs k = some (.int n t) ∧ c k = some n
inductive isCal (prog : Program) (w : World) (I : Kn) (d : Addr) (c : Int → Option Int) : Prop
  | mk (o : Obj) (kvs : List (Int × Value)) (e : I d = some o) (f : CalO prog w o kvs) (g : CalIs kvs c) : isCal prog w I d c
inductive isRow (prog : Program) (w : World) (I : Kn) (v : Value) (r : Row) : Prop
  | mk (a : Addr) (n : Nat) (t0 t1 t2 t3 : Tok) (d : Addr) (t5 : Tok) (e : v = .ref a) (f : I a = some (tupO [.int r.cc t0, .int r.nc t1, .int r.tt t2, .int r.ct t3, .ref d, .str r.name t5] n)) (g : isCal prog w I d r.cal) : isRow prog w I v r
inductive All2 {α β : Type} (R : α → β → Prop) : List α → List β → Prop
  | nil : All2 R [] []
  | cons {a : α} {b : β} {as : List α} {bs : List β} : R a b → All2 R as bs → All2 R (a :: as) (b :: bs)
theorem All2.length {α β : Type} {R : α → β → Prop} {as : List α} {bs : List β} (h : All2 R as bs) : as.length = bs.length := by
  induction h with
  | nil => rfl
  | cons _ _ ih => simp [ih]
theorem All2.imp {α β : Type} {R R' : α → β → Prop} {as : List α} {bs : List β} (h : All2 R as bs) (f : ∀ a b, R a b → R' a b) : All2 R' as bs := by
  induction h with
  | nil => exact .nil
  | cons x _ ih => exact .cons (f _ _ x) ih
theorem All2.get {α β : Type} {R : α → β → Prop} {as : List α} {bs : List β} (h : All2 R as bs) {i : Nat} {a : α} (e : as[i]? = some a) : ∃ b, bs[i]? = some b ∧ R a b := by
  induction h generalizing i with
  | nil => cases e
  | cons x _ ih =>
    cases i with
    | zero => cases e; exact ⟨_, rfl, x⟩
    | succ i => exact ih e
theorem All2.append {α β : Type} {R : α → β → Prop} {as cs : List α} {bs ds : List β} (h : All2 R as bs) (h' : All2 R cs ds) : All2 R (as ++ cs) (bs ++ ds) := by
  induction h with
  | nil => exact h'
  | cons x _ ih => exact .cons x ih

-- a list that stays, its items by R
inductive isLst {α : Type} (R : Kn → Value → α → Prop) (I : Kn) (v : Value) (xs : List α) : Prop
  | mk (a : Addr) (n : Nat) (vs : List Value) (e : v = .ref a) (f : I a = some (listO vs n)) (g : All2 (R I) vs xs) : isLst R I v xs
def isInt (_ : Kn) (v : Value) (i : Int) : Prop := ∃ t, v = .int i t
def isStr (_ : Kn) (v : Value) (x : Str) : Prop := ∃ t, v = .str x t
inductive isKey (I : Kn) (v : Value) (k : Nat × Int) : Prop
  | mk (a : Addr) (n : Nat) (t u : Tok) (e : v = .ref a) (f : I a = some (tupO [.int (k.1 : Int) t, .int k.2 u] n)) : isKey I v k
noncomputable abbrev isRows (prog : Program) (w : World) := isLst (isRow prog w)
noncomputable abbrev isKeys := isLst isKey

section
variable {prog : Program} {w : World} {I J : Kn} {v : Value}
theorem isCal.mono {d : Addr} {c : Int → Option Int} (h : isCal prog w I d c) (l : le I J) : isCal prog w J d c := let ⟨o, kvs, e, f, g⟩ := h; ⟨o, kvs, l _ _ e, f, g⟩
theorem isRow.mono {r : Row} (h : isRow prog w I v r) (l : le I J) : isRow prog w J v r := let ⟨a, n, t0, t1, t2, t3, d, t5, e, f, g⟩ := h; ⟨a, n, t0, t1, t2, t3, d, t5, e, l _ _ f, g.mono l⟩
theorem isKey.mono {k : Nat × Int} (h : isKey I v k) (l : le I J) : isKey J v k := let ⟨a, n, t, u, e, f⟩ := h; ⟨a, n, t, u, e, l _ _ f⟩
theorem isLst.mono {α : Type} {R : Kn → Value → α → Prop} {xs : List α} (h : isLst R I v xs) (l : le I J) (hR : ∀ v x, R I v x → R J v x) : isLst R J v xs := let ⟨a, n, vs, e, f, g⟩ := h; ⟨a, n, vs, e, l _ _ f, g.imp hR⟩
theorem isRows.mono {xs : List Row} (h : isRows prog w I v xs) (l : le I J) : isRows prog w J v xs := isLst.mono h l fun _ _ x => x.mono l
theorem isKeys.mono {xs : List (Nat × Int)} (h : isKeys I v xs) (l : le I J) : isKeys J v xs := isLst.mono h l fun _ _ x => x.mono l
end

noncomputable def colLt (i : Nat) (a b : Row) : Bool := match i with
  | 0 => decide (a.cc < b.cc)
  | 1 => decide (a.nc < b.nc)
  | 2 => decide (a.tt < b.tt)
  | 3 => decide (a.ct < b.ct)
  | _ => decide (a.name.cps.toList < b.name.cps.toList)
noncomputable def cmpK : List (Nat × Int) → Row → Row → Int
  | [], _, _ => 0
  | (i, d) :: ks, a, b => if colLt i a b then -d else if colLt i b a then d else cmpK ks a b
def KeyOk (k : Nat × Int) : Prop := k.1 = 0 ∨ k.1 = 1 ∨ k.1 = 2 ∨ k.1 = 3 ∨ k.1 = 5

section
variable {P : Params} {prog : Program} {w : World} {A : Around} {E : Value → Shared → Prop} {s : Shared} {env : Env} {X : List Addr} {h₀ h h' : Heap} {I₀ I : Kn} {L : Addr} {m : Str → Option Value} {mu : List (Addr × Obj)}
theorem St.silent (S : St P X h₀ I₀ I L m mu h) (hk : ∀ b o, h.get? b = some o → h'.get? b = some o) : St P X h₀ I₀ I L m mu h' := S.grow (Grow.silent S.ok hk)
theorem size_silent {h h' : Heap} (he : Heap.ExtBut h.objs.size h h') : ∀ b o, h.get? b = some o → h'.get? b = some o := fun b o e => he b o (Nat.ne_of_lt (Heap.lt_size e)) e
-- two names get a pair's parts
theorem assign2 {t : Addr} {n : Nat} {u v : Value} {x y : Str} {p1 p2 pos : Pos} {k1 : Nat} {Q : Unit → Shared → Prop} (hh : A.handled = none) (S : St P X h₀ I₀ I L m mu s.heap) (ht : s.heap.get? t = some (tupO [u, v] n))
    (h : ∀ h' tk, St P X h₀ I₀ I L (setM (setM m x u) y v) mu h' → Q () { s with heap := h', toks := tk })
    (hk : env.scope.kind = .function := by rfl) (hx : env.kindOf x = some .local := by rfl) (hy : env.kindOf y = some .local := by rfl) (hL : env.locals = L := by rfl) :
    wpAny (model prog w) A (assign (.Tuple [.Name x p1, .Name y p2] k1 pos) env (.ref t)) Q E s := by
  refine wpAny_assign_Tuple hh ⟨_, ht, rfl, _, rfl⟩ rfl rfl fun h' he => ?_
  have S1 := S.silent (size_silent he)
  show wpAny _ _ (do holding [v] (assign (.Name x p1) env u); do holding [] (assign (.Name y p2) env v); pure ()) _ _ _
  refine wpAny_bind (wpAny_holding (wpAny_assign_Name (st S1 (fun h₂ tk S2 => ?_) hk hx hL)))
  refine wpAny_bind (wpAny_holding (wpAny_assign_Name (st S2 (fun h₃ tk S3 => wpAny_pure ?_) hk hy hL)))
  exact h _ _ S3
end
end Mine

-- part LCmp
set_option maxRecDepth 100000
set_option maxHeartbeats 0
set_option pp.deepTerms false
set_option pp.maxSteps 2500
namespace Mine
open PySem PySem.W PySem.W.X PyProof.Rows PySem.Calls

inductive isComp (I : Kn) (v : Value) (keys : List (Nat × Int)) : Prop
  | mk (a d : Addr) (n : Nat) (kl : Value) (t : Tok) (hs : Int) (e : v = .ref a) (f : I a = some (instObj 54 d)) (g : I d = some (dictOf [⟨hs, .str "comp_select_list" t, kl⟩] n)) (i : isKeys I kl keys) : isComp I v keys

def isCol (i : Nat) (r : Row) (v : Value) : Prop := match i with
  | 0 => ∃ t, v = .int r.cc t
  | 1 => ∃ t, v = .int r.nc t
  | 2 => ∃ t, v = .int r.tt t
  | 3 => ∃ t, v = .int r.ct t
  | _ => ∃ t, v = .str r.name t
noncomputable def colT (i : Nat) : Value := match i with
  | 0 | 1 | 2 | 3 => .type "int"
  | _ => .type "str"
theorem ite_bool {b : Bool} {p q : Prop} (h1 : b = true → p) (h2 : b = false → q) : if b = true then p else q := by
  cases b
  · exact h2 rfl
  · exact h1 rfl
section
variable {prog : Program} {w : World} {A : Around} {E : Value → Shared → Prop} {s : Shared} {I : Kn}
theorem get_comp {a d kl : Addr} {n : Nat} {t : Tok} {hs : Int} {Q : Value → Shared → Prop} (k : Ok w.params I s.heap) (ho : I a = some (instObj 54 d)) (hd : I d = some (dictOf [⟨hs, .str "comp_select_list" t, .ref kl⟩] n)) (h : Q (.ref kl) { s with toks := s.toks + 1 }) :
    wpAny (model prog w) A (getAttr (.ref a) "comp_select_list" true) Q E s :=
  get_value (v := .ref kl) (od := some (dictOf [⟨hs, .str "comp_select_list" t, .ref kl⟩] n)) k.kp ⟨k.inh _ _ ho, rfl, rfl, k.inh _ _ hd⟩ (by kernel_rfl) (by kernel_rfl) rfl h
-- a column of a row
theorem colItem {value slice : PySem.Expr} {ra : Addr} {n i : Nat} {d : Int} {a : Row} {t0 t1 t2 t3 t5 u : Tok} {dd : Addr} {Q : Value → Shared → Prop} (hk : KeyOk (i, d)) (ht : s.heap.get? ra = some (tupO [.int a.cc t0, .int a.nc t1, .int a.tt t2, .int a.ct t3, .ref dd, .str a.name t5] n))
    (h : ∀ v, isCol i a v → Q v s) (hs : subscripted slice false (.ref ra) (.int (i : Int) u) = operate [.ref ra, .int (i : Int) u] (getItem (.ref ra) (.int (i : Int) u)) := by with_unfolding_all rfl) :
    wpAny (model prog w) A (subscriptTail value slice (.ref ra) (.int (i : Int) u)) Q E s := by
  rcases hk with e | e | e | e | e <;> (dsimp only at e; subst e)
  · exact item_tupleT ⟨_, ht, rfl, _, rfl⟩ (by decide) (by decide) rfl rfl (h _ ⟨_, rfl⟩) hs
  · exact item_tupleT ⟨_, ht, rfl, _, rfl⟩ (by decide) (by decide) rfl rfl (h _ ⟨_, rfl⟩) hs
  · exact item_tupleT ⟨_, ht, rfl, _, rfl⟩ (by decide) (by decide) rfl rfl (h _ ⟨_, rfl⟩) hs
  · exact item_tupleT ⟨_, ht, rfl, _, rfl⟩ (by decide) (by decide) rfl rfl (h _ ⟨_, rfl⟩) hs
  · exact item_tupleT ⟨_, ht, rfl, _, rfl⟩ (by decide) (by decide) rfl rfl (h _ ⟨_, rfl⟩) hs
theorem colLtW {i : Nat} {a b : Row} {u v : Value} {Q : Value → Shared → Prop} (hu : isCol i a u) (hv : isCol i b v) (h : Q (.bool (colLt i a b)) s) : wpAny (model prog w) A (compareOp .Lt u v) Q E s := by
  match i with
  | 0 => obtain ⟨_, rfl⟩ := hu; obtain ⟨_, rfl⟩ := hv; exact PyProof.Rows.lt_int h
  | 1 => obtain ⟨_, rfl⟩ := hu; obtain ⟨_, rfl⟩ := hv; exact PyProof.Rows.lt_int h
  | 2 => obtain ⟨_, rfl⟩ := hu; obtain ⟨_, rfl⟩ := hv; exact PyProof.Rows.lt_int h
  | 3 => obtain ⟨_, rfl⟩ := hu; obtain ⟨_, rfl⟩ := hv; exact PyProof.Rows.lt_int h
  | _ + 4 => obtain ⟨_, rfl⟩ := hu; obtain ⟨_, rfl⟩ := hv; exact PyProof.Rows.lt_str h
theorem colGtW {i : Nat} {a b : Row} {u v : Value} {Q : Value → Shared → Prop} (hu : isCol i a u) (hv : isCol i b v) (h : Q (.bool (colLt i b a)) s) : wpAny (model prog w) A (compareOp .Gt u v) Q E s := by
  match i with
  | 0 => obtain ⟨_, rfl⟩ := hu; obtain ⟨_, rfl⟩ := hv; exact PyProof.Rows.gt_int h
  | 1 => obtain ⟨_, rfl⟩ := hu; obtain ⟨_, rfl⟩ := hv; exact PyProof.Rows.gt_int h
  | 2 => obtain ⟨_, rfl⟩ := hu; obtain ⟨_, rfl⟩ := hv; exact PyProof.Rows.gt_int h
  | 3 => obtain ⟨_, rfl⟩ := hu; obtain ⟨_, rfl⟩ := hv; exact PyProof.Rows.gt_int h
  | _ + 4 => obtain ⟨_, rfl⟩ := hu; obtain ⟨_, rfl⟩ := hv; exact P.gt_str h
theorem compareE {self left right : Value} {keys : List (Nat × Int)} {a b : Row} (k : Ok w.params I s.heap) (r : Room A 4) (hc : isComp I self keys) (hl : isRow prog w I left a) (hr : isRow prog w I right b) (hk : ∀ k ∈ keys, KeyOk k) :
    EndsC prog w A I (.call (.ref 51) ⟨[self, left, right], []⟩) (fun _ v => ∃ t, v = .int (cmpK keys a b) t) s := by
  refine enterE (fd := _) (binds := [("self", self), ("left", left), ("right", right)]) (fun _ => []) k r.lim (k.prog 51 _ (by rfl) (by decide) (by decide) (by decide)) (by rfl) ⟨50, _, _, _, by rfl, k.prog 50 _ (by rfl) (by decide) (by decide) (by decide), by rfl, by rfl⟩ (by rfl) (by rfl) (locs (by rfl)) (fun L h₁ tk hL S => ?_)
  refine genQ fun Q0 hQ0 => ?_
  have fin : ∀ I' m' mu' s' t, St w.params [93] s.heap I I' L m' mu' s'.heap → Same s s' → Q0 (.ret (.int (cmpK keys a b) t)) s' := fun I' m' mu' s' t S' hs => hQ0 _ _ (leave (R := fun _ v => ∃ t, v = Value.int (cmpK keys a b) t) S' hs ⟨_, rfl⟩)
  clear hQ0
  have hs1 : Same s { s with heap := h₁, toks := tk } := ⟨_, _, rfl⟩
  generalize hs1' : ({ s with heap := h₁, toks := tk } : Shared) = s1 at hs1
  have eh1 : h₁ = s1.heap := by rw [← hs1']
  rw [eh1] at S
  have S1 := S
  clear hs1' S eh1
  obtain ⟨ca, cd, cn, kl, ct, chs, rfl, ho, hd, ⟨kadr, kn, kvs, rfl, hkl, hks⟩⟩ := hc
  obtain ⟨la, ln, l0, l1, l2, l3, ldd, l5, rfl, hla, hlc⟩ := hl
  obtain ⟨ra, rn, r0, r1, r2, r3, rdd, r5, rfl, hra, hrc⟩ := hr
  refine wpAny_execs_cons (wpAny_For (Attribute_name (ld S1 (by rfl) (get_comp S1.ok ho hd ?_))))
  refine for_list (s := { s1 with toks := s1.toks + 1 }) (I := I) (Q := _) r.hd hkl S1 (.inr ⟨_, _, _, rfl, ?_⟩) (fun i I₁ m₁ mu₁ => mu₁ = [] ∧ m₁ (Str.ofString "left") = some (.ref la) ∧ m₁ (Str.ofString "right") = some (.ref ra) ∧ cmpK keys a b = cmpK (keys.drop i) a b) ?_ ?_ ?_
  · intro v hv
    obtain ⟨i, hi⟩ := List.getElem?_of_mem hv
    obtain ⟨_, _, ⟨x, _, _, _, e, _⟩⟩ := hks.get hi
    exact ⟨_, e⟩
  · exact ⟨rfl, rfl, rfl, rfl⟩
  · rintro i v I₁ m₁ mu₁ s₁ it oit hv hle ⟨rfl, hm1, hm2, hcm⟩ S2 hsame
    refine genT fun Q1 hQ1 => ?_
    obtain ⟨⟨ki, kd⟩, hki, ⟨x, xn, t, u, rfl, hx⟩⟩ := hks.get hv
    dsimp only at hx
    have hkk := hk _ (List.mem_of_getElem? hki)
    have hdr : keys.drop i = (ki, kd) :: keys.drop (i + 1) := by
      obtain ⟨hi, e⟩ := List.getElem?_eq_some_iff.mp hki
      rw [List.drop_eq_getElem_cons hi, e]
    rw [hdr] at hcm
    refine assign2 r.hd S2 (S2.ok.inh _ _ (hle _ _ hx)) (fun h' tk S3 => ?_)
    have hs3 : Same s { s₁ with heap := h', toks := tk } := hs1.trans ((Same.toks (Same.refl _)).trans (hsame.trans ⟨_, _, rfl⟩))
    generalize hs3' : ({ s₁ with heap := h', toks := tk } : Shared) = s3 at hs3
    have eh : h' = s3.heap := by rw [← hs3']
    rw [eh] at S3
    clear hs3' eh hsame S2
    refine wpAny_execs_cons (wpAny_Assign_Name (Subscript_ (ld S3 (v := .ref la) (by exact hm1) (ld S3 (v := .int (ki : Int) t) (by rfl) (colItem hkk (S3.ok.inh _ _ (hle _ _ hla)) fun v1 hv1 => st S3 (fun h4 tk4 S4 => ?_))))))
    refine wpAny_execs_cons (wpAny_Assign_Name (Subscript_ (ld S4 (v := .ref ra) (by exact hm2) (ld S4 (v := .int (ki : Int) t) (by rfl) (colItem hkk (S4.ok.inh _ _ (hle _ _ hra)) fun v2 hv2 => st S4 (fun h5 tk5 S5 => ?_))))))
    have hs5 : Same s { s3 with heap := h5, toks := tk5 } := hs3.trans ⟨_, _, rfl⟩
    generalize hs5' : ({ s3 with heap := h5, toks := tk5 } : Shared) = s5 at hs5
    have eh : h5 = s5.heap := by rw [← hs5']
    rw [eh] at S5
    clear hs5' eh hs3 S3 S4
    refine wpAny_execs_cons (wpAny_If (wpAny_isTrue_Compare1 (ld S5 (v := v1) (by rfl) (ld S5 (v := v2) (by rfl) (colLtW hv1 hv2 (wpAny_truthy_bool ?_))))))
    refine ite_bool (fun hb => ?_) (fun hb => ?_)
    · refine wpAny_execs_cons (wpAny_Return_some (wpAny_UnaryOp (ld S5 (v := .int kd u) (by rfl) (neg_int ?_))))
      have e : cmpK keys a b = -kd := by rw [hcm]; simp only [cmpK, hb, if_true]
      refine hQ1 _ _ ?_
      show Q0 (.ret (.int (-kd) _)) _
      rw [← e]
      exact fin _ _ _ _ _ S5 hs5.toks
    · refine wpAny_execs_nil (wpAny_execs_cons (wpAny_If (wpAny_isTrue_Compare1 (ld S5 (v := v1) (by rfl) (ld S5 (v := v2) (by rfl) (colGtW hv1 hv2 (wpAny_truthy_bool ?_)))))))
      refine ite_bool (fun hb2 => ?_) (fun hb2 => ?_)
      · refine wpAny_execs_cons (wpAny_Return_some (ld S5 (v := .int kd u) (by rfl) ?_))
        have e : cmpK keys a b = kd := by rw [hcm]; simp only [cmpK, hb, hb2, if_true, if_false, Bool.false_eq_true]
        refine hQ1 _ _ ?_
        show Q0 (.ret (.int kd _)) _
        rw [← e]
        exact fin _ _ _ _ _ S5 hs5
      · refine wpAny_execs_nil (wpAny_execs_nil (hQ1 _ _ ?_))
        refine ⟨I₁, _, [], (hs1.trans (Same.toks (Same.refl _))).co' hs5, le.refl _, ?_, S5⟩
        refine ⟨rfl, hm1, hm2, ?_⟩
        · rw [hcm]
          simp only [cmpK, hb, hb2, if_false, Bool.false_eq_true]
  · rintro I₁ m₁ mu₁ s₁ hle ⟨rfl, -, -, hcm⟩ S2 hsame
    refine wpAny_execs_cons (wpAny_Return_some (wpAny_Constant_int ?_))
    have e : cmpK keys a b = 0 := by rw [hcm, hks.length, List.drop_length]; rfl
    show Q0 (.ret (.int 0 _)) _
    rw [← e]
    exact fin _ _ _ _ _ S2 (hs1.trans ((Same.toks (Same.refl _)).trans hsame.toks))
end
end Mine

-- part LMake
set_option maxRecDepth 100000
set_option maxHeartbeats 0
set_option pp.deepTerms false
set_option pp.maxSteps 2500
namespace Mine
open PySem PySem.W PySem.W.X PyProof.Rows PySem.Calls

-- from a roomier place
theorem wpAny_up {α : Type} {M : Model} {A : Around} {t : Sem α} {Q : α → Shared → Prop} {E : Value → Shared → Prop} {s : Shared} {n d u : Nat} (r : Room A n) (hd : 900 ≤ d + n) (hu : 9000 ≤ u + 16 * n)
    (h : wpAny M { handled := none, depth := d, frames := A.frames, guards := A.guards, units := u } t Q E s) : wpAny M A t Q E s := fun Γ p hΓ => by
  refine h Γ p ⟨hΓ.1.trans r.hd, ?_, hΓ.2.2.1, hΓ.2.2.2.1, ?_⟩
  · have := hΓ.2.1; have := r.dp; show _ ≤ d; omega
  · have := hΓ.2.2.2.2; have := r.un; show _ ≤ u; omega

end Mine

-- part LPure
set_option maxRecDepth 100000
set_option maxHeartbeats 0
namespace Mine
open PySem PySem.W PySem.W.X PyProof.Rows PySem.Calls
theorem q_sub_tuple : isSubtype (.type "tuple") (.type "tuple") = pure true := by kernel_rfl
theorem q_sub_dict : isSubtype (.type "dict") (.type "dict") = pure true := by kernel_rfl
theorem q_ty_object : typeOf (.type "object") = pure (.type "type") := by kernel_rfl
theorem q_sub_type : isSubtype (.type "type") (.type "type") = pure true := by kernel_rfl
theorem q_ext : Builtin.extendedBase [.type "object"] = pure (.type "object") := by kernel_rfl
theorem q_dict_iter : typeLookup (.type "dict") "__iter__" = pure (some (.builtin "dict.__iter__")) := by kernel_rfl
theorem q_hook : Builtin.mroHook? (.type "type") = pure none := by kernel_rfl
theorem q_weak : Builtin.Slots.givesWeak (.type "object") = pure false := by kernel_rfl
theorem q_gdict : Builtin.Slots.givesDict (.type "object") = pure false := by kernel_rfl
theorem q_var : Builtin.Slots.varSize (.type "object") = pure false := by kernel_rfl
theorem q_best : Builtin.Slots.bestBase [.type "object"] = pure (.type "object") := by kernel_rfl
theorem q_lin : Builtin.linearize [.type "object"] mroOf = pure [.type "object"] := by kernel_rfl
theorem q_made : Bind.madeBy (.type "object") = pure (some "object.__new__") := by kernel_rfl
theorem q_sn_function : typeLookup (.type "function") "__set_name__" = pure none := by kernel_rfl
theorem q_sn_str : typeLookup (.type "str") "__set_name__" = pure none := by kernel_rfl
theorem q_sn_list : typeLookup (.type "list") "__set_name__" = pure none := by kernel_rfl
theorem q_sn_int : typeLookup (.type "int") "__set_name__" = pure none := by kernel_rfl
theorem q_sn_tuple : typeLookup (.type "tuple") "__set_name__" = pure none := by kernel_rfl
theorem q_sn_none : typeLookup (.type "NoneType") "__set_name__" = pure none := by kernel_rfl
theorem q_sn_md : typeLookup (.type "member_descriptor") "__set_name__" = pure none := by kernel_rfl
theorem q_turned : Builtin.notOverATurnedClass [.type "object"] = pure () := by kernel_rfl
theorem q_note (a : Addr) : Builtin.noteSubclassOfBuiltin "object" a = pure () := by kernel_rfl
theorem q_slotNames : Builtin.Slots.slotNamesOf (.type "object") = pure [] := by kernel_rfl
theorem q_own_new : classOwn (.type "object") "__new__" = pure (some (.builtin "object.__new__")) := by kernel_rfl
theorem q_ends : ("object.__new__".endsWith ".__new__") = true := by kernel_rfl
end Mine

-- part LSuper
set_option maxRecDepth 100000
set_option maxHeartbeats 0
set_option pp.deepTerms false
set_option pp.maxSteps 3000
namespace Mine
open PySem PySem.W PySem.W.X PyProof.Rows PySem.Calls

noncomputable abbrev clsK (C ns bt : Addr) (tN tQ : Tok) : Obj :=
  { cls := .type "type", data := .cls { name := "K", bases := [.type "object"], mro := [.ref C, .type "object"], ns := ns, qualname := "cmp_to_key.<locals>.K", hasDict := false, slotNames := ["obj"] },
    slots := #[some (.ref bt), none, some (.str "K" tN), some (.str "cmp_to_key.<locals>.K" tQ), some (.builtin "object.__new__"), some (.bool false)] }
section
variable {prog : Program} {w : World} {A : Around} {E : Value → Shared → Prop}
theorem sup_end {s : Shared} {h : Heap} {t : Nat} {news : List (Addr × Obj)} {C sp : Addr} {o : Obj} (D : Mem s.heap h [] news) (hm : (sp, o) ∈ news) (ho : o = { cls := .type "super", data := .fields #[.ref C, .ref C, .ref C] }) :
    ∃ h' tk a, (⟨h, s.gens, s.drawn, t, s.os⟩ : Shared) = { s with heap := h', toks := tk } ∧ (∀ b o, s.heap.get? b = some o → h'.get? b = some o) ∧ Value.ref sp = .ref a ∧ h'.get? a = some { cls := .type "super", data := .fields #[.ref C, .ref C, .ref C] } :=
  ⟨h, t, sp, rfl, fun _ _ e => D.keep _ _ e (by simp [away]), rfl, by rw [← ho]; exact (D.nw _ hm).1⟩
local macro_rules | `(tactic| x_close) => `(tactic| (exact sup_end (by assumption) (.head _) rfl))
theorem superCall {s : Shared} {C ns bt : Addr} {tN tQ : Tok} (r : Room A 10) (KX : (KP w.params).In s.heap) (hC : s.heap.get? C = some (clsK C ns bt tN tQ)) :
    wpAny (model prog w) A (call (.type "super") [.ref C, .ref C]) (fun v s' => ∃ h' tk a, s' = { s with heap := h', toks := tk } ∧ (∀ b o, s.heap.get? b = some o → h'.get? b = some o) ∧ v = .ref a ∧ h'.get? a = some { cls := .type "super", data := .fields #[.ref C, .ref C, .ref C] }) NoE s := by
  delta clsK at hC
  refine wpAny_up (d := 890) (u := 8900) r (by decide) (by decide) ?_
  x_run
end
end Mine

-- part LZ
set_option maxRecDepth 100000
set_option maxHeartbeats 0
set_option pp.deepTerms false
set_option pp.maxSteps 4000
namespace Mine
open PySem PySem.W PySem.W.X PyProof.Rows PySem.Calls

section
variable {α : Type} {M : Model} {A : Around} {Q : α → Shared → Prop} {E : Value → Shared → Prop} {h₀ h : Heap} {g : Array GenState} {d : Drawn} {t : Nat} {os : OsState} {chg news : List (Addr × Obj)}
theorem m_load {a : Addr} {p : Option Value} {k : Obj → Sem α} {o : Obj} (ho : h.get? a = some o) (x : wpAny M A (k o) Q E ⟨h, g, d, t, os⟩) : wpAny M A (.load a p k) Q E ⟨h, g, d, t, os⟩ := nd_load ho x
theorem m_alloc {o : Obj} {k : Addr → Sem α} (D : Mem h₀ h chg news) (hf : o.isFreed = false) (x : ∀ a h', Mem h₀ h' chg ((a, o) :: news) → wpAny M A (k a) Q E ⟨h', g, d, t, os⟩) : wpAny M A (.alloc o k) Q E ⟨h, g, d, t, os⟩ :=
  nd_alloc (x _ _ (D.alloc hf))
theorem m_update {a : Addr} {p : Option Value} {f : Obj → Obj} {k : Unit → Sem α} {o : Obj} (D : Mem h₀ h chg news) (i : Nat) (hi : news[i]? = some (a, o)) (o' : Obj) (he : f o = o') (hf : o'.isFreed = false)
    (x : ∀ h', Mem h₀ h' chg (news.set i (a, o')) → wpAny M A (k ()) Q E ⟨h', g, d, t, os⟩) : wpAny M A (.update a p f k) Q E ⟨h, g, d, t, os⟩ := by
  subst he
  exact wpAny_bind (m := updatePart a p f) (f := k) (wpAny_updatePart (D.at i a o hi) (x _ (D.update hi hf)))
end

theorem nd_tryCatch {α : Type} {M : Model} {A : Around} {Q : α → Shared → Prop} {E : Value → Shared → Prop} {s : Shared} {m : Sem α} {k : Value → Sem α} (h : wpAny M A m Q (fun e s' => wpAny M A (k e) Q E s') s) : wpAny M A (Sem.tryCatch m k) Q E s := wpAny_tryCatch h
theorem at_eq {α : Type} {Q : α → Shared → Prop} {s : Shared} {p q : α} (e : p = q) (h : Q q s) : Q p s := e ▸ h
theorem wpAny_ifF {α : Type} {M : Model} {A : Around} {Q : α → Shared → Prop} {E : Value → Shared → Prop} {s : Shared} {b : Bool} {x y : Sem α} (hb : b = false) (h : wpAny M A y Q E s) : wpAny M A (if b = true then x else y) Q E s := by subst hb; exact h
theorem wpAny_ifT {α : Type} {M : Model} {A : Around} {Q : α → Shared → Prop} {E : Value → Shared → Prop} {s : Shared} {b : Bool} {x y : Sem α} (hb : b = true) (h : wpAny M A x Q E s) : wpAny M A (if b = true then x else y) Q E s := by subst hb; exact h
section
variable {prog : Program} {w : World} {A : Around} {E : Value → Shared → Prop} {h₀ h : Heap} {g : Array GenState} {d : Drawn} {t : Nat} {os : OsState} {chg news : List (Addr × Obj)}
theorem m_collect {l : Addr} {vs : List Value} {n : Nat} {Q : List Value → Shared → Prop} (D : Mem h₀ h chg news) (hl : h.get? l = some (listO vs n)) (hsz : vs.length ≤ sizeLine)
    (x : ∀ a h' o, Mem h₀ h' chg ((a, o) :: news) → Q vs ⟨h', g, d, t, os⟩) : wpAny (model prog w) A (collect (.ref l)) Q E ⟨h, g, d, t, os⟩ := by
  refine collect_list (vs := vs) ⟨_, hl, rfl, n, rfl⟩ ?_ hsz
  have D1 := D.alloc (o := seqObj "list" #[] 0) rfl
  have D2 := D1.update (i := 0) (f := Obj.mapSeq (· ++ vs.toArray)) rfl rfl
  exact x _ _ _ D2
end

end Mine

-- part LSupGa
set_option maxRecDepth 100000
set_option maxHeartbeats 0
set_option pp.deepTerms false
set_option pp.maxSteps 4000
namespace Mine
open PySem PySem.W PySem.W.X PyProof.Rows PySem.Calls

section
variable {prog : Program} {w : World} {A : Around} {E : Value → Shared → Prop}
theorem cm_end {s : Shared} {h : Heap} {t : Nat} {news : List (Addr × Obj)} {C sp : Addr} {o : Obj} (D : Mem s.heap h [] news) (hm : (sp, o) ∈ news) (ho : o = { cls := .type "builtin_function_or_method", data := .fields #[.builtin "object.__init_subclass__", .ref C] }) :
    ∃ h' tk a, (⟨h, s.gens, s.drawn, t, s.os⟩ : Shared) = { s with heap := h', toks := tk } ∧ (∀ b o, s.heap.get? b = some o → h'.get? b = some o) ∧ Value.ref sp = .ref a ∧ h'.get? a = some { cls := .type "builtin_function_or_method", data := .fields #[.builtin "object.__init_subclass__", .ref C] } :=
  ⟨h, t, sp, rfl, fun _ _ e => D.keep _ _ e (by simp [away]), rfl, by rw [← ho]; exact (D.nw _ hm).1⟩
theorem is_end {s : Shared} {h : Heap} {t : Nat} {news : List (Addr × Obj)} (D : Mem s.heap h [] news) :
    ∃ h' tk, (⟨h, s.gens, s.drawn, t, s.os⟩ : Shared) = { s with heap := h', toks := tk } ∧ (∀ b o, s.heap.get? b = some o → h'.get? b = some o) :=
  ⟨h, t, rfl, fun _ _ e => D.keep _ _ e (by simp [away])⟩
local macro_rules | `(tactic| x_close) => `(tactic| exact cm_end (by assumption) (.head _) rfl)
theorem cmGet {s : Shared} {C ns bt : Addr} {tN tQ : Tok} (r : Room A 10) (KX : (KP w.params).In s.heap) (hC : s.heap.get? C = some (clsK C ns bt tN tQ)) :
    wpAny (model prog w) A (call (.builtin "classmethod_descriptor.__get__") [.builtin "object.__init_subclass__", .none, .ref C]) (fun v s' => ∃ h' tk a, s' = { s with heap := h', toks := tk } ∧ (∀ b o, s.heap.get? b = some o → h'.get? b = some o) ∧ v = .ref a ∧ h'.get? a = some { cls := .type "builtin_function_or_method", data := .fields #[.builtin "object.__init_subclass__", .ref C] }) NoE s := by
  delta clsK at hC
  refine wpAny_up (d := 890) (u := 8900) r (by decide) (by decide) ?_
  x_run
local macro_rules | `(tactic| x_close) => `(tactic| first | exact is_end (by assumption) | exact ⟨_, _, rfl, fun _ _ e => e⟩ | (trace_state; fail))
theorem initSub {s : Shared} {C ns bt f : Addr} {tN tQ : Tok} (r : Room A 10) (KX : (KP w.params).In s.heap) (hC : s.heap.get? C = some (clsK C ns bt tN tQ)) (hf : s.heap.get? f = some { cls := .type "builtin_function_or_method", data := .fields #[.builtin "object.__init_subclass__", .ref C] }) :
    wpAny (model prog w) A (call (.ref f) []) (fun _ s' => ∃ h' tk, s' = { s with heap := h', toks := tk } ∧ (∀ b o, s.heap.get? b = some o → h'.get? b = some o)) NoE s := by
  delta clsK at hC
  refine wpAny_up (d := 890) (u := 8900) r (by decide) (by decide) ?_
  x_run
end
section
variable {prog : Program} {w : World} {A : Around} {E : Value → Shared → Prop} {s : Shared} {I : Kn}

theorem q_own_is : classOwn (.type "object") "__init_subclass__" = pure (some (.builtin "object.__init_subclass__")) := by kernel_rfl!
theorem q_ty_bi : typeOf (.builtin "object.__init_subclass__") = pure (.type "classmethod_descriptor") := by kernel_rfl!
theorem drop_mro {C : Addr} : List.drop 1 (List.dropWhile (fun x => x != Value.ref C) [Value.ref C, .type "object"]) = [.type "object"] := by
  rw [List.dropWhile_cons_of_neg (by simp)]; rfl
theorem superGa {h : Heap} {g : Array GenState} {d : Drawn} {t : Nat} {os : OsState} {so C ns bt : Addr} {tN tQ tk : Tok} {Q : PySem.Fin → Shared → Prop} (r : Room A 10) (KX : (KP w.params).In h)
    (h1 : h.get? so = some { cls := .type "super", data := .fields #[.ref C, .ref C, .ref C] }) (h2 : h.get? C = some (clsK C ns bt tN tQ))
    (hq : ∀ h' tk a, (∀ b o, h.get? b = some o → h'.get? b = some o) → h'.get? a = some { cls := .type "builtin_function_or_method", data := .fields #[.builtin "object.__init_subclass__", .ref C] } → Q (.done (.ret (.ref a))) ⟨h', g, d, tk, os⟩) :
    wpAny (model prog w) A (Builtin.«super.__getattribute__» ⟨[.ref so, .str "__init_subclass__" tk], []⟩) Q E ⟨h, g, d, t, os⟩ := by
  have D := Mem.start h
  unfold Builtin.«super.__getattribute__»
  repeat (first | (with_reducible refine m_alloc (by assumption) rfl ?_; intro _ _ _) | (first | with_reducible refine Mine.nd_tryCatch ?_ | with_reducible refine wpAny_holding ?_ | ((fail_if_success (first | (with_reducible show wpAny _ _ (notOfAnOpaqueClass _ _ _) _ _ _) | (with_reducible show wpAny _ _ (forIn (List.drop _ _) _ _) _ _ _))); k_unfold) | (with_reducible refine wpAny_bind ?_; k_fold) | (with_reducible refine nd_bind ?_; k_fold) | with_reducible refine wpAny_holding ?_ | with_reducible refine wpAny_keep ?_ | (with_reducible refine wpAny_onRaise ?_; k_fold) | (with_reducible refine wpAny_tryCatch ?_; k_fold) | (with_reducible refine Mine.nd_tryCatch ?_; k_fold) | (with_reducible refine wpAny_attempt ?_; k_fold) | (with_reducible refine Mine.m_load (by first | exact PySem.W.X.Mem.at (by assumption) 0 _ _ rfl | exact PySem.W.X.Mem.at (by assumption) 1 _ _ rfl | exact PySem.W.X.Mem.at (by assumption) 2 _ _ rfl | exact PySem.W.X.Mem.at (by assumption) 3 _ _ rfl | exact PySem.W.X.Mem.old (by assumption) _ _ (by assumption) rfl) ?_) | ((with_reducible show wpAny _ _ (Sem.update _ _ _ _) _ _ _); first | (refine Mine.m_update (by assumption) 0 rfl _ rfl rfl ?_; intro _ _) | (refine Mine.m_update (by assumption) 1 rfl _ rfl rfl ?_; intro _ _) | (refine Mine.m_update (by assumption) 2 rfl _ rfl rfl ?_; intro _ _) | (refine Mine.m_update (by assumption) 3 rfl _ rfl rfl ?_; intro _ _)) | (first | ((with_reducible show wpAny _ _ (isSubtype _ _) _ _ _); first | refine wpAny_of_eq (Mine.q_sub_tuple) ?_ | refine wpAny_of_eq (Mine.q_sub_dict) ?_ | refine wpAny_of_eq (Mine.q_sub_type) ?_) | ((with_reducible show wpAny _ _ (typeOf (Value.type _)) _ _ _); first | refine wpAny_of_eq (Mine.q_ty_object) ?_) | ((with_reducible show wpAny _ _ (typeLookup (Value.type _) _) _ _ _); first | refine wpAny_of_eq (Mine.q_dict_iter) ?_ | refine wpAny_of_eq (Mine.q_sn_function) ?_ | refine wpAny_of_eq (Mine.q_sn_str) ?_ | refine wpAny_of_eq (Mine.q_sn_list) ?_ | refine wpAny_of_eq (Mine.q_sn_int) ?_ | refine wpAny_of_eq (Mine.q_sn_tuple) ?_ | refine wpAny_of_eq (Mine.q_sn_none) ?_ | refine wpAny_of_eq (Mine.q_sn_md) ?_) | ((with_reducible show wpAny _ _ (Builtin.extendedBase _) _ _ _); first | refine wpAny_of_eq (Mine.q_ext) ?_) | ((with_reducible show wpAny _ _ (Builtin.mroHook? _) _ _ _); first | refine wpAny_of_eq (Mine.q_hook) ?_) | ((with_reducible show wpAny _ _ (Builtin.Slots.givesWeak _) _ _ _); first | refine wpAny_of_eq (Mine.q_weak) ?_) | ((with_reducible show wpAny _ _ (Builtin.Slots.givesDict _) _ _ _); first | refine wpAny_of_eq (Mine.q_gdict) ?_) | ((with_reducible show wpAny _ _ (Builtin.Slots.varSize _) _ _ _); first | refine wpAny_of_eq (Mine.q_var) ?_) | ((with_reducible show wpAny _ _ (Builtin.Slots.bestBase _) _ _ _); first | refine wpAny_of_eq (Mine.q_best) ?_) | ((with_reducible show wpAny _ _ (Builtin.linearize _ _) _ _ _); first | refine wpAny_of_eq (Mine.q_lin) ?_) | ((with_reducible show wpAny _ _ (Bind.madeBy _) _ _ _); first | refine wpAny_of_eq (Mine.q_made) ?_) | ((with_reducible show wpAny _ _ (Builtin.notOverATurnedClass _) _ _ _); first | refine wpAny_of_eq (Mine.q_turned) ?_) | ((with_reducible show wpAny _ _ (Builtin.noteSubclassOfBuiltin _ _) _ _ _); first | refine wpAny_of_eq (Mine.q_note _) ?_) | ((with_reducible show wpAny _ _ (Builtin.Slots.slotNamesOf _) _ _ _); first | refine wpAny_of_eq (Mine.q_slotNames) ?_) | ((with_reducible show wpAny _ _ (classOwn (Value.type _) _) _ _ _); first | refine wpAny_of_eq (Mine.q_own_new) ?_)) | (with_reducible refine Mine.wpAny_ifF (by kernel_rfl!) ?_) | (with_reducible refine Mine.wpAny_ifT (by kernel_rfl!) ?_) | ((fail_if_success (first | (with_reducible show wpAny _ _ (isSubtype _ _) _ _ _) | (with_reducible show wpAny _ _ (typeOf (Value.type _)) _ _ _) | (with_reducible show wpAny _ _ (typeLookup (Value.type _) _) _ _ _) | (with_reducible show wpAny _ _ (Builtin.extendedBase _) _ _ _) | (with_reducible show wpAny _ _ (Builtin.mroHook? _) _ _ _) | (with_reducible show wpAny _ _ (Builtin.Slots.givesWeak _) _ _ _) | (with_reducible show wpAny _ _ (Builtin.Slots.givesDict _) _ _ _) | (with_reducible show wpAny _ _ (Builtin.Slots.varSize _) _ _ _) | (with_reducible show wpAny _ _ (Builtin.Slots.bestBase _) _ _ _) | (with_reducible show wpAny _ _ (Builtin.linearize _ _) _ _ _) | (with_reducible show wpAny _ _ (Bind.madeBy _) _ _ _) | (with_reducible show wpAny _ _ (Builtin.notOverATurnedClass _) _ _ _) | (with_reducible show wpAny _ _ (Builtin.noteSubclassOfBuiltin _ _) _ _ _) | (with_reducible show wpAny _ _ (Builtin.Slots.slotNamesOf _) _ _ _) | (with_reducible show wpAny _ _ (mroOf (Value.type _)) _ _ _) | (with_reducible show wpAny _ _ (classOwn (Value.type _) _) _ _ _) | (with_reducible show wpAny _ _ (Builtin.Slots.read _ _ _) _ _ _) | (with_reducible show wpAny _ _ (Sem.update _ _ _ _) _ _ _) | (with_reducible show wpAny _ _ (Sem.alloc _ _) _ _ _) | (with_reducible show wpAny _ _ (collect _) _ _ _) | (with_reducible show wpAny _ _ (call _ _ _) _ _ _) | (with_reducible show wpAny _ _ (Builtin.Slots.install _ _ _ _) _ _ _) | (with_reducible show wpAny _ _ (Bind.refreshMaker _) _ _ _))); (fail_if_success (first | (with_reducible show wpAny _ _ (notOfAnOpaqueClass _ _ _) _ _ _) | (with_reducible show wpAny _ _ (forIn (List.drop _ _) _ _) _ _ _))); k_node)))
  refine ks_wpAny_notOpaque (looks_opaque KX (by kernel_rfl!)) ?_
  repeat (first | (with_reducible refine m_alloc (by assumption) rfl ?_; intro _ _ _) | (first | with_reducible refine Mine.nd_tryCatch ?_ | with_reducible refine wpAny_holding ?_ | ((fail_if_success (first | (with_reducible show wpAny _ _ (notOfAnOpaqueClass _ _ _) _ _ _) | (with_reducible show wpAny _ _ (forIn (List.drop _ _) _ _) _ _ _))); k_unfold) | (with_reducible refine wpAny_bind ?_; k_fold) | (with_reducible refine nd_bind ?_; k_fold) | with_reducible refine wpAny_holding ?_ | with_reducible refine wpAny_keep ?_ | (with_reducible refine wpAny_onRaise ?_; k_fold) | (with_reducible refine wpAny_tryCatch ?_; k_fold) | (with_reducible refine Mine.nd_tryCatch ?_; k_fold) | (with_reducible refine wpAny_attempt ?_; k_fold) | (with_reducible refine Mine.m_load (by first | exact PySem.W.X.Mem.at (by assumption) 0 _ _ rfl | exact PySem.W.X.Mem.at (by assumption) 1 _ _ rfl | exact PySem.W.X.Mem.at (by assumption) 2 _ _ rfl | exact PySem.W.X.Mem.at (by assumption) 3 _ _ rfl | exact PySem.W.X.Mem.old (by assumption) _ _ (by assumption) rfl) ?_) | ((with_reducible show wpAny _ _ (Sem.update _ _ _ _) _ _ _); first | (refine Mine.m_update (by assumption) 0 rfl _ rfl rfl ?_; intro _ _) | (refine Mine.m_update (by assumption) 1 rfl _ rfl rfl ?_; intro _ _) | (refine Mine.m_update (by assumption) 2 rfl _ rfl rfl ?_; intro _ _) | (refine Mine.m_update (by assumption) 3 rfl _ rfl rfl ?_; intro _ _)) | (first | ((with_reducible show wpAny _ _ (isSubtype _ _) _ _ _); first | refine wpAny_of_eq (Mine.q_sub_tuple) ?_ | refine wpAny_of_eq (Mine.q_sub_dict) ?_ | refine wpAny_of_eq (Mine.q_sub_type) ?_) | ((with_reducible show wpAny _ _ (typeOf (Value.type _)) _ _ _); first | refine wpAny_of_eq (Mine.q_ty_object) ?_) | ((with_reducible show wpAny _ _ (typeLookup (Value.type _) _) _ _ _); first | refine wpAny_of_eq (Mine.q_dict_iter) ?_ | refine wpAny_of_eq (Mine.q_sn_function) ?_ | refine wpAny_of_eq (Mine.q_sn_str) ?_ | refine wpAny_of_eq (Mine.q_sn_list) ?_ | refine wpAny_of_eq (Mine.q_sn_int) ?_ | refine wpAny_of_eq (Mine.q_sn_tuple) ?_ | refine wpAny_of_eq (Mine.q_sn_none) ?_ | refine wpAny_of_eq (Mine.q_sn_md) ?_) | ((with_reducible show wpAny _ _ (Builtin.extendedBase _) _ _ _); first | refine wpAny_of_eq (Mine.q_ext) ?_) | ((with_reducible show wpAny _ _ (Builtin.mroHook? _) _ _ _); first | refine wpAny_of_eq (Mine.q_hook) ?_) | ((with_reducible show wpAny _ _ (Builtin.Slots.givesWeak _) _ _ _); first | refine wpAny_of_eq (Mine.q_weak) ?_) | ((with_reducible show wpAny _ _ (Builtin.Slots.givesDict _) _ _ _); first | refine wpAny_of_eq (Mine.q_gdict) ?_) | ((with_reducible show wpAny _ _ (Builtin.Slots.varSize _) _ _ _); first | refine wpAny_of_eq (Mine.q_var) ?_) | ((with_reducible show wpAny _ _ (Builtin.Slots.bestBase _) _ _ _); first | refine wpAny_of_eq (Mine.q_best) ?_) | ((with_reducible show wpAny _ _ (Builtin.linearize _ _) _ _ _); first | refine wpAny_of_eq (Mine.q_lin) ?_) | ((with_reducible show wpAny _ _ (Bind.madeBy _) _ _ _); first | refine wpAny_of_eq (Mine.q_made) ?_) | ((with_reducible show wpAny _ _ (Builtin.notOverATurnedClass _) _ _ _); first | refine wpAny_of_eq (Mine.q_turned) ?_) | ((with_reducible show wpAny _ _ (Builtin.noteSubclassOfBuiltin _ _) _ _ _); first | refine wpAny_of_eq (Mine.q_note _) ?_) | ((with_reducible show wpAny _ _ (Builtin.Slots.slotNamesOf _) _ _ _); first | refine wpAny_of_eq (Mine.q_slotNames) ?_) | ((with_reducible show wpAny _ _ (classOwn (Value.type _) _) _ _ _); first | refine wpAny_of_eq (Mine.q_own_new) ?_)) | (with_reducible refine Mine.wpAny_ifF (by kernel_rfl!) ?_) | (with_reducible refine Mine.wpAny_ifT (by kernel_rfl!) ?_) | ((fail_if_success (first | (with_reducible show wpAny _ _ (isSubtype _ _) _ _ _) | (with_reducible show wpAny _ _ (typeOf (Value.type _)) _ _ _) | (with_reducible show wpAny _ _ (typeLookup (Value.type _) _) _ _ _) | (with_reducible show wpAny _ _ (Builtin.extendedBase _) _ _ _) | (with_reducible show wpAny _ _ (Builtin.mroHook? _) _ _ _) | (with_reducible show wpAny _ _ (Builtin.Slots.givesWeak _) _ _ _) | (with_reducible show wpAny _ _ (Builtin.Slots.givesDict _) _ _ _) | (with_reducible show wpAny _ _ (Builtin.Slots.varSize _) _ _ _) | (with_reducible show wpAny _ _ (Builtin.Slots.bestBase _) _ _ _) | (with_reducible show wpAny _ _ (Builtin.linearize _ _) _ _ _) | (with_reducible show wpAny _ _ (Bind.madeBy _) _ _ _) | (with_reducible show wpAny _ _ (Builtin.notOverATurnedClass _) _ _ _) | (with_reducible show wpAny _ _ (Builtin.noteSubclassOfBuiltin _ _) _ _ _) | (with_reducible show wpAny _ _ (Builtin.Slots.slotNamesOf _) _ _ _) | (with_reducible show wpAny _ _ (mroOf (Value.type _)) _ _ _) | (with_reducible show wpAny _ _ (classOwn (Value.type _) _) _ _ _) | (with_reducible show wpAny _ _ (Builtin.Slots.read _ _ _) _ _ _) | (with_reducible show wpAny _ _ (Sem.update _ _ _ _) _ _ _) | (with_reducible show wpAny _ _ (Sem.alloc _ _) _ _ _) | (with_reducible show wpAny _ _ (collect _) _ _ _) | (with_reducible show wpAny _ _ (call _ _ _) _ _ _) | (with_reducible show wpAny _ _ (Builtin.Slots.install _ _ _ _) _ _ _) | (with_reducible show wpAny _ _ (Bind.refreshMaker _) _ _ _))); (fail_if_success (first | (with_reducible show wpAny _ _ (notOfAnOpaqueClass _ _ _) _ _ _) | (with_reducible show wpAny _ _ (forIn (List.drop _ _) _ _) _ _ _))); k_node)))
  show wpAny _ _ (forIn (List.drop 1 (List.dropWhile (fun x => x != Value.ref C) [Value.ref C, Value.type "object"])) _ _) _ _ _
  rw [drop_mro]
  repeat (first | (with_reducible refine m_alloc (by assumption) rfl ?_; intro _ _ _) | (first | with_reducible refine Mine.nd_tryCatch ?_ | with_reducible refine wpAny_holding ?_ | ((fail_if_success (first | (with_reducible show wpAny _ _ (notOfAnOpaqueClass _ _ _) _ _ _) | (with_reducible show wpAny _ _ (forIn (List.drop _ _) _ _) _ _ _))); k_unfold) | (with_reducible refine wpAny_bind ?_; k_fold) | (with_reducible refine nd_bind ?_; k_fold) | with_reducible refine wpAny_holding ?_ | with_reducible refine wpAny_keep ?_ | (with_reducible refine wpAny_onRaise ?_; k_fold) | (with_reducible refine wpAny_tryCatch ?_; k_fold) | (with_reducible refine Mine.nd_tryCatch ?_; k_fold) | (with_reducible refine wpAny_attempt ?_; k_fold) | (with_reducible refine Mine.m_load (by first | exact PySem.W.X.Mem.at (by assumption) 0 _ _ rfl | exact PySem.W.X.Mem.at (by assumption) 1 _ _ rfl | exact PySem.W.X.Mem.at (by assumption) 2 _ _ rfl | exact PySem.W.X.Mem.at (by assumption) 3 _ _ rfl | exact PySem.W.X.Mem.old (by assumption) _ _ (by assumption) rfl) ?_) | ((with_reducible show wpAny _ _ (Sem.update _ _ _ _) _ _ _); first | (refine Mine.m_update (by assumption) 0 rfl _ rfl rfl ?_; intro _ _) | (refine Mine.m_update (by assumption) 1 rfl _ rfl rfl ?_; intro _ _) | (refine Mine.m_update (by assumption) 2 rfl _ rfl rfl ?_; intro _ _) | (refine Mine.m_update (by assumption) 3 rfl _ rfl rfl ?_; intro _ _)) | (first | ((with_reducible show wpAny _ _ (isSubtype _ _) _ _ _); first | refine wpAny_of_eq (Mine.q_sub_tuple) ?_ | refine wpAny_of_eq (Mine.q_sub_dict) ?_ | refine wpAny_of_eq (Mine.q_sub_type) ?_) | ((with_reducible show wpAny _ _ (typeOf (Value.type _)) _ _ _); first | refine wpAny_of_eq (Mine.q_ty_object) ?_) | ((with_reducible show wpAny _ _ (typeLookup (Value.type _) _) _ _ _); first | refine wpAny_of_eq (Mine.q_dict_iter) ?_ | refine wpAny_of_eq (Mine.q_sn_function) ?_ | refine wpAny_of_eq (Mine.q_sn_str) ?_ | refine wpAny_of_eq (Mine.q_sn_list) ?_ | refine wpAny_of_eq (Mine.q_sn_int) ?_ | refine wpAny_of_eq (Mine.q_sn_tuple) ?_ | refine wpAny_of_eq (Mine.q_sn_none) ?_ | refine wpAny_of_eq (Mine.q_sn_md) ?_) | ((with_reducible show wpAny _ _ (Builtin.extendedBase _) _ _ _); first | refine wpAny_of_eq (Mine.q_ext) ?_) | ((with_reducible show wpAny _ _ (Builtin.mroHook? _) _ _ _); first | refine wpAny_of_eq (Mine.q_hook) ?_) | ((with_reducible show wpAny _ _ (Builtin.Slots.givesWeak _) _ _ _); first | refine wpAny_of_eq (Mine.q_weak) ?_) | ((with_reducible show wpAny _ _ (Builtin.Slots.givesDict _) _ _ _); first | refine wpAny_of_eq (Mine.q_gdict) ?_) | ((with_reducible show wpAny _ _ (Builtin.Slots.varSize _) _ _ _); first | refine wpAny_of_eq (Mine.q_var) ?_) | ((with_reducible show wpAny _ _ (Builtin.Slots.bestBase _) _ _ _); first | refine wpAny_of_eq (Mine.q_best) ?_) | ((with_reducible show wpAny _ _ (Builtin.linearize _ _) _ _ _); first | refine wpAny_of_eq (Mine.q_lin) ?_) | ((with_reducible show wpAny _ _ (Bind.madeBy _) _ _ _); first | refine wpAny_of_eq (Mine.q_made) ?_) | ((with_reducible show wpAny _ _ (Builtin.notOverATurnedClass _) _ _ _); first | refine wpAny_of_eq (Mine.q_turned) ?_) | ((with_reducible show wpAny _ _ (Builtin.noteSubclassOfBuiltin _ _) _ _ _); first | refine wpAny_of_eq (Mine.q_note _) ?_) | ((with_reducible show wpAny _ _ (Builtin.Slots.slotNamesOf _) _ _ _); first | refine wpAny_of_eq (Mine.q_slotNames) ?_) | ((with_reducible show wpAny _ _ (classOwn (Value.type _) _) _ _ _); first | refine wpAny_of_eq (Mine.q_own_new) ?_)) | (with_reducible refine Mine.wpAny_ifF (by kernel_rfl!) ?_) | (with_reducible refine Mine.wpAny_ifT (by kernel_rfl!) ?_) | ((fail_if_success (first | (with_reducible show wpAny _ _ (isSubtype _ _) _ _ _) | (with_reducible show wpAny _ _ (typeOf (Value.type _)) _ _ _) | (with_reducible show wpAny _ _ (typeLookup (Value.type _) _) _ _ _) | (with_reducible show wpAny _ _ (Builtin.extendedBase _) _ _ _) | (with_reducible show wpAny _ _ (Builtin.mroHook? _) _ _ _) | (with_reducible show wpAny _ _ (Builtin.Slots.givesWeak _) _ _ _) | (with_reducible show wpAny _ _ (Builtin.Slots.givesDict _) _ _ _) | (with_reducible show wpAny _ _ (Builtin.Slots.varSize _) _ _ _) | (with_reducible show wpAny _ _ (Builtin.Slots.bestBase _) _ _ _) | (with_reducible show wpAny _ _ (Builtin.linearize _ _) _ _ _) | (with_reducible show wpAny _ _ (Bind.madeBy _) _ _ _) | (with_reducible show wpAny _ _ (Builtin.notOverATurnedClass _) _ _ _) | (with_reducible show wpAny _ _ (Builtin.noteSubclassOfBuiltin _ _) _ _ _) | (with_reducible show wpAny _ _ (Builtin.Slots.slotNamesOf _) _ _ _) | (with_reducible show wpAny _ _ (mroOf (Value.type _)) _ _ _) | (with_reducible show wpAny _ _ (classOwn (Value.type _) _) _ _ _) | (with_reducible show wpAny _ _ (Builtin.Slots.read _ _ _) _ _ _) | (with_reducible show wpAny _ _ (Sem.update _ _ _ _) _ _ _) | (with_reducible show wpAny _ _ (Sem.alloc _ _) _ _ _) | (with_reducible show wpAny _ _ (collect _) _ _ _) | (with_reducible show wpAny _ _ (call _ _ _) _ _ _) | (with_reducible show wpAny _ _ (Builtin.Slots.install _ _ _ _) _ _ _) | (with_reducible show wpAny _ _ (Bind.refreshMaker _) _ _ _))); (fail_if_success (first | (with_reducible show wpAny _ _ (notOfAnOpaqueClass _ _ _) _ _ _) | (with_reducible show wpAny _ _ (forIn (List.drop _ _) _ _) _ _ _))); k_node)))
  refine wpAny_of_eq q_own_is ?_
  repeat (first | (with_reducible refine m_alloc (by assumption) rfl ?_; intro _ _ _) | (first | with_reducible refine Mine.nd_tryCatch ?_ | with_reducible refine wpAny_holding ?_ | ((fail_if_success (first | (with_reducible show wpAny _ _ (notOfAnOpaqueClass _ _ _) _ _ _) | (with_reducible show wpAny _ _ (forIn (List.drop _ _) _ _) _ _ _))); k_unfold) | (with_reducible refine wpAny_bind ?_; k_fold) | (with_reducible refine nd_bind ?_; k_fold) | with_reducible refine wpAny_holding ?_ | with_reducible refine wpAny_keep ?_ | (with_reducible refine wpAny_onRaise ?_; k_fold) | (with_reducible refine wpAny_tryCatch ?_; k_fold) | (with_reducible refine Mine.nd_tryCatch ?_; k_fold) | (with_reducible refine wpAny_attempt ?_; k_fold) | (with_reducible refine Mine.m_load (by first | exact PySem.W.X.Mem.at (by assumption) 0 _ _ rfl | exact PySem.W.X.Mem.at (by assumption) 1 _ _ rfl | exact PySem.W.X.Mem.at (by assumption) 2 _ _ rfl | exact PySem.W.X.Mem.at (by assumption) 3 _ _ rfl | exact PySem.W.X.Mem.old (by assumption) _ _ (by assumption) rfl) ?_) | ((with_reducible show wpAny _ _ (Sem.update _ _ _ _) _ _ _); first | (refine Mine.m_update (by assumption) 0 rfl _ rfl rfl ?_; intro _ _) | (refine Mine.m_update (by assumption) 1 rfl _ rfl rfl ?_; intro _ _) | (refine Mine.m_update (by assumption) 2 rfl _ rfl rfl ?_; intro _ _) | (refine Mine.m_update (by assumption) 3 rfl _ rfl rfl ?_; intro _ _)) | (first | ((with_reducible show wpAny _ _ (isSubtype _ _) _ _ _); first | refine wpAny_of_eq (Mine.q_sub_tuple) ?_ | refine wpAny_of_eq (Mine.q_sub_dict) ?_ | refine wpAny_of_eq (Mine.q_sub_type) ?_) | ((with_reducible show wpAny _ _ (typeOf (Value.type _)) _ _ _); first | refine wpAny_of_eq (Mine.q_ty_object) ?_) | ((with_reducible show wpAny _ _ (typeLookup (Value.type _) _) _ _ _); first | refine wpAny_of_eq (Mine.q_dict_iter) ?_ | refine wpAny_of_eq (Mine.q_sn_function) ?_ | refine wpAny_of_eq (Mine.q_sn_str) ?_ | refine wpAny_of_eq (Mine.q_sn_list) ?_ | refine wpAny_of_eq (Mine.q_sn_int) ?_ | refine wpAny_of_eq (Mine.q_sn_tuple) ?_ | refine wpAny_of_eq (Mine.q_sn_none) ?_ | refine wpAny_of_eq (Mine.q_sn_md) ?_) | ((with_reducible show wpAny _ _ (Builtin.extendedBase _) _ _ _); first | refine wpAny_of_eq (Mine.q_ext) ?_) | ((with_reducible show wpAny _ _ (Builtin.mroHook? _) _ _ _); first | refine wpAny_of_eq (Mine.q_hook) ?_) | ((with_reducible show wpAny _ _ (Builtin.Slots.givesWeak _) _ _ _); first | refine wpAny_of_eq (Mine.q_weak) ?_) | ((with_reducible show wpAny _ _ (Builtin.Slots.givesDict _) _ _ _); first | refine wpAny_of_eq (Mine.q_gdict) ?_) | ((with_reducible show wpAny _ _ (Builtin.Slots.varSize _) _ _ _); first | refine wpAny_of_eq (Mine.q_var) ?_) | ((with_reducible show wpAny _ _ (Builtin.Slots.bestBase _) _ _ _); first | refine wpAny_of_eq (Mine.q_best) ?_) | ((with_reducible show wpAny _ _ (Builtin.linearize _ _) _ _ _); first | refine wpAny_of_eq (Mine.q_lin) ?_) | ((with_reducible show wpAny _ _ (Bind.madeBy _) _ _ _); first | refine wpAny_of_eq (Mine.q_made) ?_) | ((with_reducible show wpAny _ _ (Builtin.notOverATurnedClass _) _ _ _); first | refine wpAny_of_eq (Mine.q_turned) ?_) | ((with_reducible show wpAny _ _ (Builtin.noteSubclassOfBuiltin _ _) _ _ _); first | refine wpAny_of_eq (Mine.q_note _) ?_) | ((with_reducible show wpAny _ _ (Builtin.Slots.slotNamesOf _) _ _ _); first | refine wpAny_of_eq (Mine.q_slotNames) ?_) | ((with_reducible show wpAny _ _ (classOwn (Value.type _) _) _ _ _); first | refine wpAny_of_eq (Mine.q_own_new) ?_)) | (with_reducible refine Mine.wpAny_ifF (by kernel_rfl!) ?_) | (with_reducible refine Mine.wpAny_ifT (by kernel_rfl!) ?_) | ((fail_if_success (first | (with_reducible show wpAny _ _ (isSubtype _ _) _ _ _) | (with_reducible show wpAny _ _ (typeOf (Value.type _)) _ _ _) | (with_reducible show wpAny _ _ (typeLookup (Value.type _) _) _ _ _) | (with_reducible show wpAny _ _ (Builtin.extendedBase _) _ _ _) | (with_reducible show wpAny _ _ (Builtin.mroHook? _) _ _ _) | (with_reducible show wpAny _ _ (Builtin.Slots.givesWeak _) _ _ _) | (with_reducible show wpAny _ _ (Builtin.Slots.givesDict _) _ _ _) | (with_reducible show wpAny _ _ (Builtin.Slots.varSize _) _ _ _) | (with_reducible show wpAny _ _ (Builtin.Slots.bestBase _) _ _ _) | (with_reducible show wpAny _ _ (Builtin.linearize _ _) _ _ _) | (with_reducible show wpAny _ _ (Bind.madeBy _) _ _ _) | (with_reducible show wpAny _ _ (Builtin.notOverATurnedClass _) _ _ _) | (with_reducible show wpAny _ _ (Builtin.noteSubclassOfBuiltin _ _) _ _ _) | (with_reducible show wpAny _ _ (Builtin.Slots.slotNamesOf _) _ _ _) | (with_reducible show wpAny _ _ (mroOf (Value.type _)) _ _ _) | (with_reducible show wpAny _ _ (classOwn (Value.type _) _) _ _ _) | (with_reducible show wpAny _ _ (Builtin.Slots.read _ _ _) _ _ _) | (with_reducible show wpAny _ _ (Sem.update _ _ _ _) _ _ _) | (with_reducible show wpAny _ _ (Sem.alloc _ _) _ _ _) | (with_reducible show wpAny _ _ (collect _) _ _ _) | (with_reducible show wpAny _ _ (call _ _ _) _ _ _) | (with_reducible show wpAny _ _ (Builtin.Slots.install _ _ _ _) _ _ _) | (with_reducible show wpAny _ _ (Bind.refreshMaker _) _ _ _))); (fail_if_success (first | (with_reducible show wpAny _ _ (notOfAnOpaqueClass _ _ _) _ _ _) | (with_reducible show wpAny _ _ (forIn (List.drop _ _) _ _) _ _ _))); k_node)))
  refine wpAny_of_eq (show _ = pure (some (.builtin "classmethod_descriptor.__get__")) from by kernel_rfl!) ?_
  repeat (first | (with_reducible refine m_alloc (by assumption) rfl ?_; intro _ _ _) | (first | with_reducible refine Mine.nd_tryCatch ?_ | with_reducible refine wpAny_holding ?_ | ((fail_if_success (first | (with_reducible show wpAny _ _ (notOfAnOpaqueClass _ _ _) _ _ _) | (with_reducible show wpAny _ _ (forIn (List.drop _ _) _ _) _ _ _))); k_unfold) | (with_reducible refine wpAny_bind ?_; k_fold) | (with_reducible refine nd_bind ?_; k_fold) | with_reducible refine wpAny_holding ?_ | with_reducible refine wpAny_keep ?_ | (with_reducible refine wpAny_onRaise ?_; k_fold) | (with_reducible refine wpAny_tryCatch ?_; k_fold) | (with_reducible refine Mine.nd_tryCatch ?_; k_fold) | (with_reducible refine wpAny_attempt ?_; k_fold) | (with_reducible refine Mine.m_load (by first | exact PySem.W.X.Mem.at (by assumption) 0 _ _ rfl | exact PySem.W.X.Mem.at (by assumption) 1 _ _ rfl | exact PySem.W.X.Mem.at (by assumption) 2 _ _ rfl | exact PySem.W.X.Mem.at (by assumption) 3 _ _ rfl | exact PySem.W.X.Mem.old (by assumption) _ _ (by assumption) rfl) ?_) | ((with_reducible show wpAny _ _ (Sem.update _ _ _ _) _ _ _); first | (refine Mine.m_update (by assumption) 0 rfl _ rfl rfl ?_; intro _ _) | (refine Mine.m_update (by assumption) 1 rfl _ rfl rfl ?_; intro _ _) | (refine Mine.m_update (by assumption) 2 rfl _ rfl rfl ?_; intro _ _) | (refine Mine.m_update (by assumption) 3 rfl _ rfl rfl ?_; intro _ _)) | (first | ((with_reducible show wpAny _ _ (isSubtype _ _) _ _ _); first | refine wpAny_of_eq (Mine.q_sub_tuple) ?_ | refine wpAny_of_eq (Mine.q_sub_dict) ?_ | refine wpAny_of_eq (Mine.q_sub_type) ?_) | ((with_reducible show wpAny _ _ (typeOf (Value.type _)) _ _ _); first | refine wpAny_of_eq (Mine.q_ty_object) ?_) | ((with_reducible show wpAny _ _ (typeLookup (Value.type _) _) _ _ _); first | refine wpAny_of_eq (Mine.q_dict_iter) ?_ | refine wpAny_of_eq (Mine.q_sn_function) ?_ | refine wpAny_of_eq (Mine.q_sn_str) ?_ | refine wpAny_of_eq (Mine.q_sn_list) ?_ | refine wpAny_of_eq (Mine.q_sn_int) ?_ | refine wpAny_of_eq (Mine.q_sn_tuple) ?_ | refine wpAny_of_eq (Mine.q_sn_none) ?_ | refine wpAny_of_eq (Mine.q_sn_md) ?_) | ((with_reducible show wpAny _ _ (Builtin.extendedBase _) _ _ _); first | refine wpAny_of_eq (Mine.q_ext) ?_) | ((with_reducible show wpAny _ _ (Builtin.mroHook? _) _ _ _); first | refine wpAny_of_eq (Mine.q_hook) ?_) | ((with_reducible show wpAny _ _ (Builtin.Slots.givesWeak _) _ _ _); first | refine wpAny_of_eq (Mine.q_weak) ?_) | ((with_reducible show wpAny _ _ (Builtin.Slots.givesDict _) _ _ _); first | refine wpAny_of_eq (Mine.q_gdict) ?_) | ((with_reducible show wpAny _ _ (Builtin.Slots.varSize _) _ _ _); first | refine wpAny_of_eq (Mine.q_var) ?_) | ((with_reducible show wpAny _ _ (Builtin.Slots.bestBase _) _ _ _); first | refine wpAny_of_eq (Mine.q_best) ?_) | ((with_reducible show wpAny _ _ (Builtin.linearize _ _) _ _ _); first | refine wpAny_of_eq (Mine.q_lin) ?_) | ((with_reducible show wpAny _ _ (Bind.madeBy _) _ _ _); first | refine wpAny_of_eq (Mine.q_made) ?_) | ((with_reducible show wpAny _ _ (Builtin.notOverATurnedClass _) _ _ _); first | refine wpAny_of_eq (Mine.q_turned) ?_) | ((with_reducible show wpAny _ _ (Builtin.noteSubclassOfBuiltin _ _) _ _ _); first | refine wpAny_of_eq (Mine.q_note _) ?_) | ((with_reducible show wpAny _ _ (Builtin.Slots.slotNamesOf _) _ _ _); first | refine wpAny_of_eq (Mine.q_slotNames) ?_) | ((with_reducible show wpAny _ _ (classOwn (Value.type _) _) _ _ _); first | refine wpAny_of_eq (Mine.q_own_new) ?_)) | (with_reducible refine Mine.wpAny_ifF (by kernel_rfl!) ?_) | (with_reducible refine Mine.wpAny_ifT (by kernel_rfl!) ?_) | ((fail_if_success (first | (with_reducible show wpAny _ _ (isSubtype _ _) _ _ _) | (with_reducible show wpAny _ _ (typeOf (Value.type _)) _ _ _) | (with_reducible show wpAny _ _ (typeLookup (Value.type _) _) _ _ _) | (with_reducible show wpAny _ _ (Builtin.extendedBase _) _ _ _) | (with_reducible show wpAny _ _ (Builtin.mroHook? _) _ _ _) | (with_reducible show wpAny _ _ (Builtin.Slots.givesWeak _) _ _ _) | (with_reducible show wpAny _ _ (Builtin.Slots.givesDict _) _ _ _) | (with_reducible show wpAny _ _ (Builtin.Slots.varSize _) _ _ _) | (with_reducible show wpAny _ _ (Builtin.Slots.bestBase _) _ _ _) | (with_reducible show wpAny _ _ (Builtin.linearize _ _) _ _ _) | (with_reducible show wpAny _ _ (Bind.madeBy _) _ _ _) | (with_reducible show wpAny _ _ (Builtin.notOverATurnedClass _) _ _ _) | (with_reducible show wpAny _ _ (Builtin.noteSubclassOfBuiltin _ _) _ _ _) | (with_reducible show wpAny _ _ (Builtin.Slots.slotNamesOf _) _ _ _) | (with_reducible show wpAny _ _ (mroOf (Value.type _)) _ _ _) | (with_reducible show wpAny _ _ (classOwn (Value.type _) _) _ _ _) | (with_reducible show wpAny _ _ (Builtin.Slots.read _ _ _) _ _ _) | (with_reducible show wpAny _ _ (Sem.update _ _ _ _) _ _ _) | (with_reducible show wpAny _ _ (Sem.alloc _ _) _ _ _) | (with_reducible show wpAny _ _ (collect _) _ _ _) | (with_reducible show wpAny _ _ (call _ _ _) _ _ _) | (with_reducible show wpAny _ _ (Builtin.Slots.install _ _ _ _) _ _ _) | (with_reducible show wpAny _ _ (Bind.refreshMaker _) _ _ _))); (fail_if_success (first | (with_reducible show wpAny _ _ (notOfAnOpaqueClass _ _ _) _ _ _) | (with_reducible show wpAny _ _ (forIn (List.drop _ _) _ _) _ _ _))); k_node)))
  show wpAny _ _ (call (Value.builtin "classmethod_descriptor.__get__") [Value.builtin "object.__init_subclass__", if (Value.ref C == Value.ref C) = true then Value.none else Value.ref C, Value.ref C]) _ _ _
  rw [if_pos (beq_self_eq_true _)]
  refine wpAny_mono (cmGet r KX h2) (fun v s' hv => ?_) (fun _ _ z => z.elim)
  obtain ⟨h', tk', a, rfl, hk, rfl, ha⟩ := hv
  have := hq h' tk' a hk ha
  clear D
  have D := Mem.start h'
  show wpAny _ _ _ _ _ _
  repeat (first | (with_reducible refine m_alloc (by assumption) rfl ?_; intro _ _ _) | (first | with_reducible refine Mine.nd_tryCatch ?_ | with_reducible refine wpAny_holding ?_ | ((fail_if_success (first | (with_reducible show wpAny _ _ (notOfAnOpaqueClass _ _ _) _ _ _) | (with_reducible show wpAny _ _ (forIn (List.drop _ _) _ _) _ _ _))); k_unfold) | (with_reducible refine wpAny_bind ?_; k_fold) | (with_reducible refine nd_bind ?_; k_fold) | with_reducible refine wpAny_holding ?_ | with_reducible refine wpAny_keep ?_ | (with_reducible refine wpAny_onRaise ?_; k_fold) | (with_reducible refine wpAny_tryCatch ?_; k_fold) | (with_reducible refine Mine.nd_tryCatch ?_; k_fold) | (with_reducible refine wpAny_attempt ?_; k_fold) | (with_reducible refine Mine.m_load (by first | exact PySem.W.X.Mem.at (by assumption) 0 _ _ rfl | exact PySem.W.X.Mem.at (by assumption) 1 _ _ rfl | exact PySem.W.X.Mem.at (by assumption) 2 _ _ rfl | exact PySem.W.X.Mem.at (by assumption) 3 _ _ rfl | exact PySem.W.X.Mem.old (by assumption) _ _ (by assumption) rfl) ?_) | ((with_reducible show wpAny _ _ (Sem.update _ _ _ _) _ _ _); first | (refine Mine.m_update (by assumption) 0 rfl _ rfl rfl ?_; intro _ _) | (refine Mine.m_update (by assumption) 1 rfl _ rfl rfl ?_; intro _ _) | (refine Mine.m_update (by assumption) 2 rfl _ rfl rfl ?_; intro _ _) | (refine Mine.m_update (by assumption) 3 rfl _ rfl rfl ?_; intro _ _)) | (first | ((with_reducible show wpAny _ _ (isSubtype _ _) _ _ _); first | refine wpAny_of_eq (Mine.q_sub_tuple) ?_ | refine wpAny_of_eq (Mine.q_sub_dict) ?_ | refine wpAny_of_eq (Mine.q_sub_type) ?_) | ((with_reducible show wpAny _ _ (typeOf (Value.type _)) _ _ _); first | refine wpAny_of_eq (Mine.q_ty_object) ?_) | ((with_reducible show wpAny _ _ (typeLookup (Value.type _) _) _ _ _); first | refine wpAny_of_eq (Mine.q_dict_iter) ?_ | refine wpAny_of_eq (Mine.q_sn_function) ?_ | refine wpAny_of_eq (Mine.q_sn_str) ?_ | refine wpAny_of_eq (Mine.q_sn_list) ?_ | refine wpAny_of_eq (Mine.q_sn_int) ?_ | refine wpAny_of_eq (Mine.q_sn_tuple) ?_ | refine wpAny_of_eq (Mine.q_sn_none) ?_ | refine wpAny_of_eq (Mine.q_sn_md) ?_) | ((with_reducible show wpAny _ _ (Builtin.extendedBase _) _ _ _); first | refine wpAny_of_eq (Mine.q_ext) ?_) | ((with_reducible show wpAny _ _ (Builtin.mroHook? _) _ _ _); first | refine wpAny_of_eq (Mine.q_hook) ?_) | ((with_reducible show wpAny _ _ (Builtin.Slots.givesWeak _) _ _ _); first | refine wpAny_of_eq (Mine.q_weak) ?_) | ((with_reducible show wpAny _ _ (Builtin.Slots.givesDict _) _ _ _); first | refine wpAny_of_eq (Mine.q_gdict) ?_) | ((with_reducible show wpAny _ _ (Builtin.Slots.varSize _) _ _ _); first | refine wpAny_of_eq (Mine.q_var) ?_) | ((with_reducible show wpAny _ _ (Builtin.Slots.bestBase _) _ _ _); first | refine wpAny_of_eq (Mine.q_best) ?_) | ((with_reducible show wpAny _ _ (Builtin.linearize _ _) _ _ _); first | refine wpAny_of_eq (Mine.q_lin) ?_) | ((with_reducible show wpAny _ _ (Bind.madeBy _) _ _ _); first | refine wpAny_of_eq (Mine.q_made) ?_) | ((with_reducible show wpAny _ _ (Builtin.notOverATurnedClass _) _ _ _); first | refine wpAny_of_eq (Mine.q_turned) ?_) | ((with_reducible show wpAny _ _ (Builtin.noteSubclassOfBuiltin _ _) _ _ _); first | refine wpAny_of_eq (Mine.q_note _) ?_) | ((with_reducible show wpAny _ _ (Builtin.Slots.slotNamesOf _) _ _ _); first | refine wpAny_of_eq (Mine.q_slotNames) ?_) | ((with_reducible show wpAny _ _ (classOwn (Value.type _) _) _ _ _); first | refine wpAny_of_eq (Mine.q_own_new) ?_)) | (with_reducible refine Mine.wpAny_ifF (by kernel_rfl!) ?_) | (with_reducible refine Mine.wpAny_ifT (by kernel_rfl!) ?_) | ((fail_if_success (first | (with_reducible show wpAny _ _ (isSubtype _ _) _ _ _) | (with_reducible show wpAny _ _ (typeOf (Value.type _)) _ _ _) | (with_reducible show wpAny _ _ (typeLookup (Value.type _) _) _ _ _) | (with_reducible show wpAny _ _ (Builtin.extendedBase _) _ _ _) | (with_reducible show wpAny _ _ (Builtin.mroHook? _) _ _ _) | (with_reducible show wpAny _ _ (Builtin.Slots.givesWeak _) _ _ _) | (with_reducible show wpAny _ _ (Builtin.Slots.givesDict _) _ _ _) | (with_reducible show wpAny _ _ (Builtin.Slots.varSize _) _ _ _) | (with_reducible show wpAny _ _ (Builtin.Slots.bestBase _) _ _ _) | (with_reducible show wpAny _ _ (Builtin.linearize _ _) _ _ _) | (with_reducible show wpAny _ _ (Bind.madeBy _) _ _ _) | (with_reducible show wpAny _ _ (Builtin.notOverATurnedClass _) _ _ _) | (with_reducible show wpAny _ _ (Builtin.noteSubclassOfBuiltin _ _) _ _ _) | (with_reducible show wpAny _ _ (Builtin.Slots.slotNamesOf _) _ _ _) | (with_reducible show wpAny _ _ (mroOf (Value.type _)) _ _ _) | (with_reducible show wpAny _ _ (classOwn (Value.type _) _) _ _ _) | (with_reducible show wpAny _ _ (Builtin.Slots.read _ _ _) _ _ _) | (with_reducible show wpAny _ _ (Sem.update _ _ _ _) _ _ _) | (with_reducible show wpAny _ _ (Sem.alloc _ _) _ _ _) | (with_reducible show wpAny _ _ (collect _) _ _ _) | (with_reducible show wpAny _ _ (call _ _ _) _ _ _) | (with_reducible show wpAny _ _ (Builtin.Slots.install _ _ _ _) _ _ _) | (with_reducible show wpAny _ _ (Bind.refreshMaker _) _ _ _))); (fail_if_success (first | (with_reducible show wpAny _ _ (notOfAnOpaqueClass _ _ _) _ _ _) | (with_reducible show wpAny _ _ (forIn (List.drop _ _) _ _) _ _ _))); k_node)))
  exact this
theorem getSub {h : Heap} {g : Array GenState} {d : Drawn} {t : Nat} {os : OsState} {so C ns bt : Addr} {tN tQ : Tok} {Q : Value → Shared → Prop} (r : Room A 12) (KX : (KP w.params).In h)
    (h1 : h.get? so = some { cls := .type "super", data := .fields #[.ref C, .ref C, .ref C] }) (h2 : h.get? C = some (clsK C ns bt tN tQ))
    (hq : ∀ h' tk a, (∀ b o, h.get? b = some o → h'.get? b = some o) → h'.get? a = some { cls := .type "builtin_function_or_method", data := .fields #[.builtin "object.__init_subclass__", .ref C] } → Q (.ref a) ⟨h', g, d, tk, os⟩) :
    wpAny (model prog w) A (getAttr (.ref so) "__init_subclass__") Q E ⟨h, g, d, t, os⟩ := by
  have hlk := F.ks_slot_super_ga.lookup
  have hT : ∀ t', (⟨h, g, d, t', os⟩ : Shared).TypeIs (.ref so) "super" := fun _ => ⟨_, h1, rfl⟩
  unfold getAttr getAttrBy
  refine wpAny_bind (wpAny_mkText (wpAny_holding (wpAny_bind (wpAny_typeOf (hT _) (wpAny_bind (wpAny_of_eq hlk ?_))))))
  show wpAny _ _ (getAttrByItsOwn (.ref so) (.str "__init_subclass__" t) (.type "super") (.builtin "super.__getattribute__") true false) _ _ _
  unfold getAttrByItsOwn hookBefore callGetattribute boundAndCalled
  refine wpAny_bind (wpAny_of_eq (show (if onTheHeap (.type "super") then typeLookup (.type "super") "__getattr__" else pure none) = pure none from rfl) ?_)
  refine wpAny_bind (wpAny_attempt (wpAny_holding ?_))
  show wpAny _ _ (bindSpecial (.builtin "super.__getattribute__") (.ref so) >>= _) _ _ _
  refine wpAny_bind (wpAny_of_eq (F.ks_slot_super_ga.bind _) ?_)
  refine wpAny_mono (Q := fun v s' => ∃ h' tk a, v = .ref a ∧ s' = ⟨h', g, d, tk, os⟩ ∧ (∀ b o, h.get? b = some o → h'.get? b = some o) ∧ h'.get? a = some { cls := .type "builtin_function_or_method", data := .fields #[.builtin "object.__init_subclass__", .ref C] }) (E := fun _ _ => False)
    (wpAny_call_entry F.ks_slot_super_ga (hT _) F.ks_entry_super_ga (superGa (Room.in1 (r.mono (by decide))) KX h1 h2 fun h' tk a k e => ⟨_, rfl, h', tk, a, rfl, rfl, k, e⟩) (F.ks_gaArgs_super _ _)) (fun v s' hv => ?_) fun _ _ z => z.elim
  obtain ⟨h', tk, a, rfl, rfl, k, e⟩ := hv
  exact wpAny_pure (hq h' tk a k e)
theorem hooksEnd {h : Heap} {g : Array GenState} {d : Drawn} {t : Nat} {os : OsState} {C ns bt : Addr} {tN tQ : Tok} {Q : Unit → Shared → Prop} (r : Room A 12) (KX : (KP w.params).In h) (h2 : h.get? C = some (clsK C ns bt tN tQ))
    (hq : ∀ h' tk, (∀ b o, h.get? b = some o → h'.get? b = some o) → Q () ⟨h', g, d, tk, os⟩) :
    wpAny (model prog w) A (call (.type "super") [.ref C, .ref C]) (fun sup s' => wpAny (model prog w) A (do let f ← holding [sup] (getAttr sup "__init_subclass__"); let _ ← call f [] []; pure ()) Q E s') E ⟨h, g, d, t, os⟩ := by
  refine wpAny_mono (superCall (r.mono (by decide)) KX h2) (fun v s' hv => ?_) (fun _ _ z => z.elim)
  obtain ⟨h', tk, a, rfl, k, rfl, e⟩ := hv
  refine wpAny_bind (wpAny_holding (getSub r (fun a o z => k _ _ (KX a o z)) e (k _ _ h2) fun h₂ tk₂ a₂ k₂ e₂ => ?_))
  refine wpAny_bind (wpAny_mono (initSub (r.mono (by decide)) (fun a o z => k₂ _ _ (k _ _ (KX a o z))) (k₂ _ _ (k _ _ h2)) e₂) (fun _ s' hv => ?_) (fun _ _ z => z.elim))
  obtain ⟨h₃, tk₃, rfl, k₃⟩ := hv
  exact wpAny_pure (hq h₃ tk₃ fun b o z => k₃ _ _ (k₂ _ _ (k _ _ z)))
end
end Mine

-- part LTypeN
set_option maxRecDepth 100000
set_option maxHeartbeats 0
set_option pp.deepTerms false
set_option pp.maxSteps 40000
namespace Mine
open PySem PySem.W PySem.W.X PyProof.Rows PySem.Calls

section
variable {prog : Program} {w : World} {A : Around} {E : Value → Shared → Prop} {s : Shared} {I : Kn}
theorem q_ident : Builtin.Slots.isIdentifier (Str.ofString "obj") = some true := by kernel_rfl
noncomputable abbrev entA (e : Nat → Int) (k u : Nat → Tok) (sl sa : Addr) (f : Nat → Addr) : List DictEntry :=
  [⟨e 1, .str "__module__" (k 1), .str "cpy313.functools" (u 1)⟩, ⟨e 2, .str "__qualname__" (k 2), .str "cmp_to_key.<locals>.K" (u 2)⟩, ⟨e 3, .str "__firstlineno__" (k 3), .int 4 (u 3)⟩, ⟨e 4, .str "__slots__" (k 4), .ref sl⟩,
     ⟨e 5, .str "__init__" (k 5), .ref (f 0)⟩, ⟨e 6, .str "__lt__" (k 6), .ref (f 1)⟩, ⟨e 7, .str "__gt__" (k 7), .ref (f 2)⟩, ⟨e 8, .str "__eq__" (k 8), .ref (f 3)⟩, ⟨e 9, .str "__le__" (k 9), .ref (f 4)⟩, ⟨e 10, .str "__ge__" (k 10), .ref (f 5)⟩, ⟨e 11, .str "__hash__" (k 11), .none⟩, ⟨e 12, .str "__static_attributes__" (k 12), .ref sa⟩]
noncomputable abbrev hS (w : World) (s : Str) : Int := if s.cps.isEmpty then 0 else reduceHash (w.params.strHash s.cps)
noncomputable abbrev entB (w : World) (e : Nat → Int) (k u : Nat → Tok) (sl sa : Addr) (f : Nat → Addr) (md : Addr) (t1 t2 : Tok) : List DictEntry :=
  [⟨e 1, .str "__module__" (k 1), .str "cpy313.functools" (u 1)⟩, ⟨e 3, .str "__firstlineno__" (k 3), .int 4 (u 3)⟩, ⟨e 4, .str "__slots__" (k 4), .ref sl⟩,
     ⟨e 5, .str "__init__" (k 5), .ref (f 0)⟩, ⟨e 6, .str "__lt__" (k 6), .ref (f 1)⟩, ⟨e 7, .str "__gt__" (k 7), .ref (f 2)⟩, ⟨e 8, .str "__eq__" (k 8), .ref (f 3)⟩, ⟨e 9, .str "__le__" (k 9), .ref (f 4)⟩, ⟨e 10, .str "__ge__" (k 10), .ref (f 5)⟩, ⟨e 11, .str "__hash__" (k 11), .none⟩, ⟨e 12, .str "__static_attributes__" (k 12), .ref sa⟩,
     ⟨hS w "obj", .str "obj" t1, .ref md⟩, ⟨hS w "__doc__", .str "__doc__" t2, .none⟩]
theorem readK {h₀ h : Heap} {g : Array GenState} {d : Drawn} {t : Nat} {os : OsState} {news : List (Addr × Obj)} {e : Nat → Int} {k u : Nat → Tok} {sl sa : Addr} {f : Nat → Addr} {t0 : Tok} {n : Nat} {Q : Builtin.Slots.Plan → Shared → Prop} (D : Mem h₀ h [] news)
    (h2 : h₀.get? sl = some (listO [.str "obj" t0] n)) (x : ∀ a h' o, Mem h₀ h' [] ((a, o) :: news) → Q { names := ["obj"], dict := false, weak := false, inherited := [] } ⟨h', g, d, t, os⟩) :
    wpAny (model prog w) A (Builtin.Slots.read "K" [.type "object"] (entA e k u sl sa f).toArray) Q E ⟨h, g, d, t, os⟩ := by
  unfold Builtin.Slots.read
  repeat (first | with_reducible refine Mine.nd_tryCatch ?_ | with_reducible refine wpAny_holding ?_ | k_unfold | (with_reducible refine wpAny_bind ?_; k_fold) | (with_reducible refine nd_bind ?_; k_fold) | with_reducible refine wpAny_holding ?_ | with_reducible refine wpAny_keep ?_ | (with_reducible refine wpAny_onRaise ?_; k_fold) | (with_reducible refine wpAny_tryCatch ?_; k_fold) | (with_reducible refine Mine.nd_tryCatch ?_; k_fold) | (with_reducible refine wpAny_attempt ?_; k_fold) | (with_reducible refine Mine.m_load (by first | exact PySem.W.X.Mem.at (by assumption) 0 _ _ rfl | exact PySem.W.X.Mem.at (by assumption) 1 _ _ rfl | exact PySem.W.X.Mem.at (by assumption) 2 _ _ rfl | exact PySem.W.X.Mem.at (by assumption) 3 _ _ rfl | exact PySem.W.X.Mem.old (by assumption) _ _ (by assumption) rfl) ?_) | ((with_reducible show wpAny _ _ (Sem.update _ _ _ _) _ _ _); first | (refine Mine.m_update (by assumption) 0 rfl _ rfl rfl ?_; intro _ _) | (refine Mine.m_update (by assumption) 1 rfl _ rfl rfl ?_; intro _ _) | (refine Mine.m_update (by assumption) 2 rfl _ rfl rfl ?_; intro _ _) | (refine Mine.m_update (by assumption) 3 rfl _ rfl rfl ?_; intro _ _)) | (first | ((with_reducible show wpAny _ _ (isSubtype _ _) _ _ _); first | refine wpAny_of_eq (Mine.q_sub_tuple) ?_ | refine wpAny_of_eq (Mine.q_sub_dict) ?_ | refine wpAny_of_eq (Mine.q_sub_type) ?_) | ((with_reducible show wpAny _ _ (typeOf (Value.type _)) _ _ _); first | refine wpAny_of_eq (Mine.q_ty_object) ?_) | ((with_reducible show wpAny _ _ (typeLookup (Value.type _) _) _ _ _); first | refine wpAny_of_eq (Mine.q_dict_iter) ?_ | refine wpAny_of_eq (Mine.q_sn_function) ?_ | refine wpAny_of_eq (Mine.q_sn_str) ?_ | refine wpAny_of_eq (Mine.q_sn_list) ?_ | refine wpAny_of_eq (Mine.q_sn_int) ?_ | refine wpAny_of_eq (Mine.q_sn_tuple) ?_ | refine wpAny_of_eq (Mine.q_sn_none) ?_ | refine wpAny_of_eq (Mine.q_sn_md) ?_) | ((with_reducible show wpAny _ _ (Builtin.extendedBase _) _ _ _); first | refine wpAny_of_eq (Mine.q_ext) ?_) | ((with_reducible show wpAny _ _ (Builtin.mroHook? _) _ _ _); first | refine wpAny_of_eq (Mine.q_hook) ?_) | ((with_reducible show wpAny _ _ (Builtin.Slots.givesWeak _) _ _ _); first | refine wpAny_of_eq (Mine.q_weak) ?_) | ((with_reducible show wpAny _ _ (Builtin.Slots.givesDict _) _ _ _); first | refine wpAny_of_eq (Mine.q_gdict) ?_) | ((with_reducible show wpAny _ _ (Builtin.Slots.varSize _) _ _ _); first | refine wpAny_of_eq (Mine.q_var) ?_) | ((with_reducible show wpAny _ _ (Builtin.Slots.bestBase _) _ _ _); first | refine wpAny_of_eq (Mine.q_best) ?_) | ((with_reducible show wpAny _ _ (Builtin.linearize _ _) _ _ _); first | refine wpAny_of_eq (Mine.q_lin) ?_) | ((with_reducible show wpAny _ _ (Bind.madeBy _) _ _ _); first | refine wpAny_of_eq (Mine.q_made) ?_) | ((with_reducible show wpAny _ _ (Builtin.notOverATurnedClass _) _ _ _); first | refine wpAny_of_eq (Mine.q_turned) ?_) | ((with_reducible show wpAny _ _ (Builtin.noteSubclassOfBuiltin _ _) _ _ _); first | refine wpAny_of_eq (Mine.q_note _) ?_) | ((with_reducible show wpAny _ _ (Builtin.Slots.slotNamesOf _) _ _ _); first | refine wpAny_of_eq (Mine.q_slotNames) ?_) | ((with_reducible show wpAny _ _ (classOwn (Value.type _) _) _ _ _); first | refine wpAny_of_eq (Mine.q_own_new) ?_)) | (with_reducible refine Mine.wpAny_ifF (by kernel_rfl!) ?_) | (with_reducible refine Mine.wpAny_ifT (by kernel_rfl!) ?_) | ((fail_if_success (first | (with_reducible show wpAny _ _ (isSubtype _ _) _ _ _) | (with_reducible show wpAny _ _ (typeOf (Value.type _)) _ _ _) | (with_reducible show wpAny _ _ (typeLookup (Value.type _) _) _ _ _) | (with_reducible show wpAny _ _ (Builtin.extendedBase _) _ _ _) | (with_reducible show wpAny _ _ (Builtin.mroHook? _) _ _ _) | (with_reducible show wpAny _ _ (Builtin.Slots.givesWeak _) _ _ _) | (with_reducible show wpAny _ _ (Builtin.Slots.givesDict _) _ _ _) | (with_reducible show wpAny _ _ (Builtin.Slots.varSize _) _ _ _) | (with_reducible show wpAny _ _ (Builtin.Slots.bestBase _) _ _ _) | (with_reducible show wpAny _ _ (Builtin.linearize _ _) _ _ _) | (with_reducible show wpAny _ _ (Bind.madeBy _) _ _ _) | (with_reducible show wpAny _ _ (Builtin.notOverATurnedClass _) _ _ _) | (with_reducible show wpAny _ _ (Builtin.noteSubclassOfBuiltin _ _) _ _ _) | (with_reducible show wpAny _ _ (Builtin.Slots.slotNamesOf _) _ _ _) | (with_reducible show wpAny _ _ (mroOf (Value.type _)) _ _ _) | (with_reducible show wpAny _ _ (classOwn (Value.type _) _) _ _ _) | (with_reducible show wpAny _ _ (Builtin.Slots.read _ _ _) _ _ _) | (with_reducible show wpAny _ _ (Sem.update _ _ _ _) _ _ _) | (with_reducible show wpAny _ _ (Sem.alloc _ _) _ _ _) | (with_reducible show wpAny _ _ (collect _) _ _ _) | (with_reducible show wpAny _ _ (call _ _ _) _ _ _) | (with_reducible show wpAny _ _ (Builtin.Slots.install _ _ _ _) _ _ _) | (with_reducible show wpAny _ _ (Bind.refreshMaker _) _ _ _))); k_node))
  refine m_collect (l := sl) (vs := [.str "obj" t0]) (n := n) D (D.old _ _ h2 rfl) (by show 1 ≤ sizeLine; decide) ?_
  clear D
  intro a1 h1' o1 D
  repeat (first | with_reducible refine Mine.nd_tryCatch ?_ | with_reducible refine wpAny_holding ?_ | k_unfold | (with_reducible refine wpAny_bind ?_; k_fold) | (with_reducible refine nd_bind ?_; k_fold) | with_reducible refine wpAny_holding ?_ | with_reducible refine wpAny_keep ?_ | (with_reducible refine wpAny_onRaise ?_; k_fold) | (with_reducible refine wpAny_tryCatch ?_; k_fold) | (with_reducible refine Mine.nd_tryCatch ?_; k_fold) | (with_reducible refine wpAny_attempt ?_; k_fold) | (with_reducible refine Mine.m_load (by first | exact PySem.W.X.Mem.at (by assumption) 0 _ _ rfl | exact PySem.W.X.Mem.at (by assumption) 1 _ _ rfl | exact PySem.W.X.Mem.at (by assumption) 2 _ _ rfl | exact PySem.W.X.Mem.at (by assumption) 3 _ _ rfl | exact PySem.W.X.Mem.old (by assumption) _ _ (by assumption) rfl) ?_) | ((with_reducible show wpAny _ _ (Sem.update _ _ _ _) _ _ _); first | (refine Mine.m_update (by assumption) 0 rfl _ rfl rfl ?_; intro _ _) | (refine Mine.m_update (by assumption) 1 rfl _ rfl rfl ?_; intro _ _) | (refine Mine.m_update (by assumption) 2 rfl _ rfl rfl ?_; intro _ _) | (refine Mine.m_update (by assumption) 3 rfl _ rfl rfl ?_; intro _ _)) | (first | ((with_reducible show wpAny _ _ (isSubtype _ _) _ _ _); first | refine wpAny_of_eq (Mine.q_sub_tuple) ?_ | refine wpAny_of_eq (Mine.q_sub_dict) ?_ | refine wpAny_of_eq (Mine.q_sub_type) ?_) | ((with_reducible show wpAny _ _ (typeOf (Value.type _)) _ _ _); first | refine wpAny_of_eq (Mine.q_ty_object) ?_) | ((with_reducible show wpAny _ _ (typeLookup (Value.type _) _) _ _ _); first | refine wpAny_of_eq (Mine.q_dict_iter) ?_ | refine wpAny_of_eq (Mine.q_sn_function) ?_ | refine wpAny_of_eq (Mine.q_sn_str) ?_ | refine wpAny_of_eq (Mine.q_sn_list) ?_ | refine wpAny_of_eq (Mine.q_sn_int) ?_ | refine wpAny_of_eq (Mine.q_sn_tuple) ?_ | refine wpAny_of_eq (Mine.q_sn_none) ?_ | refine wpAny_of_eq (Mine.q_sn_md) ?_) | ((with_reducible show wpAny _ _ (Builtin.extendedBase _) _ _ _); first | refine wpAny_of_eq (Mine.q_ext) ?_) | ((with_reducible show wpAny _ _ (Builtin.mroHook? _) _ _ _); first | refine wpAny_of_eq (Mine.q_hook) ?_) | ((with_reducible show wpAny _ _ (Builtin.Slots.givesWeak _) _ _ _); first | refine wpAny_of_eq (Mine.q_weak) ?_) | ((with_reducible show wpAny _ _ (Builtin.Slots.givesDict _) _ _ _); first | refine wpAny_of_eq (Mine.q_gdict) ?_) | ((with_reducible show wpAny _ _ (Builtin.Slots.varSize _) _ _ _); first | refine wpAny_of_eq (Mine.q_var) ?_) | ((with_reducible show wpAny _ _ (Builtin.Slots.bestBase _) _ _ _); first | refine wpAny_of_eq (Mine.q_best) ?_) | ((with_reducible show wpAny _ _ (Builtin.linearize _ _) _ _ _); first | refine wpAny_of_eq (Mine.q_lin) ?_) | ((with_reducible show wpAny _ _ (Bind.madeBy _) _ _ _); first | refine wpAny_of_eq (Mine.q_made) ?_) | ((with_reducible show wpAny _ _ (Builtin.notOverATurnedClass _) _ _ _); first | refine wpAny_of_eq (Mine.q_turned) ?_) | ((with_reducible show wpAny _ _ (Builtin.noteSubclassOfBuiltin _ _) _ _ _); first | refine wpAny_of_eq (Mine.q_note _) ?_) | ((with_reducible show wpAny _ _ (Builtin.Slots.slotNamesOf _) _ _ _); first | refine wpAny_of_eq (Mine.q_slotNames) ?_) | ((with_reducible show wpAny _ _ (classOwn (Value.type _) _) _ _ _); first | refine wpAny_of_eq (Mine.q_own_new) ?_)) | (with_reducible refine Mine.wpAny_ifF (by kernel_rfl!) ?_) | (with_reducible refine Mine.wpAny_ifT (by kernel_rfl!) ?_) | ((fail_if_success (first | (with_reducible show wpAny _ _ (isSubtype _ _) _ _ _) | (with_reducible show wpAny _ _ (typeOf (Value.type _)) _ _ _) | (with_reducible show wpAny _ _ (typeLookup (Value.type _) _) _ _ _) | (with_reducible show wpAny _ _ (Builtin.extendedBase _) _ _ _) | (with_reducible show wpAny _ _ (Builtin.mroHook? _) _ _ _) | (with_reducible show wpAny _ _ (Builtin.Slots.givesWeak _) _ _ _) | (with_reducible show wpAny _ _ (Builtin.Slots.givesDict _) _ _ _) | (with_reducible show wpAny _ _ (Builtin.Slots.varSize _) _ _ _) | (with_reducible show wpAny _ _ (Builtin.Slots.bestBase _) _ _ _) | (with_reducible show wpAny _ _ (Builtin.linearize _ _) _ _ _) | (with_reducible show wpAny _ _ (Bind.madeBy _) _ _ _) | (with_reducible show wpAny _ _ (Builtin.notOverATurnedClass _) _ _ _) | (with_reducible show wpAny _ _ (Builtin.noteSubclassOfBuiltin _ _) _ _ _) | (with_reducible show wpAny _ _ (Builtin.Slots.slotNamesOf _) _ _ _) | (with_reducible show wpAny _ _ (mroOf (Value.type _)) _ _ _) | (with_reducible show wpAny _ _ (classOwn (Value.type _) _) _ _ _) | (with_reducible show wpAny _ _ (Builtin.Slots.read _ _ _) _ _ _) | (with_reducible show wpAny _ _ (Sem.update _ _ _ _) _ _ _) | (with_reducible show wpAny _ _ (Sem.alloc _ _) _ _ _) | (with_reducible show wpAny _ _ (collect _) _ _ _) | (with_reducible show wpAny _ _ (call _ _ _) _ _ _) | (with_reducible show wpAny _ _ (Builtin.Slots.install _ _ _ _) _ _ _) | (with_reducible show wpAny _ _ (Bind.refreshMaker _) _ _ _))); k_node))
  rw [q_ident]
  repeat (first | with_reducible refine Mine.nd_tryCatch ?_ | with_reducible refine wpAny_holding ?_ | k_unfold | (with_reducible refine wpAny_bind ?_; k_fold) | (with_reducible refine nd_bind ?_; k_fold) | with_reducible refine wpAny_holding ?_ | with_reducible refine wpAny_keep ?_ | (with_reducible refine wpAny_onRaise ?_; k_fold) | (with_reducible refine wpAny_tryCatch ?_; k_fold) | (with_reducible refine Mine.nd_tryCatch ?_; k_fold) | (with_reducible refine wpAny_attempt ?_; k_fold) | (with_reducible refine Mine.m_load (by first | exact PySem.W.X.Mem.at (by assumption) 0 _ _ rfl | exact PySem.W.X.Mem.at (by assumption) 1 _ _ rfl | exact PySem.W.X.Mem.at (by assumption) 2 _ _ rfl | exact PySem.W.X.Mem.at (by assumption) 3 _ _ rfl | exact PySem.W.X.Mem.old (by assumption) _ _ (by assumption) rfl) ?_) | ((with_reducible show wpAny _ _ (Sem.update _ _ _ _) _ _ _); first | (refine Mine.m_update (by assumption) 0 rfl _ rfl rfl ?_; intro _ _) | (refine Mine.m_update (by assumption) 1 rfl _ rfl rfl ?_; intro _ _) | (refine Mine.m_update (by assumption) 2 rfl _ rfl rfl ?_; intro _ _) | (refine Mine.m_update (by assumption) 3 rfl _ rfl rfl ?_; intro _ _)) | (first | ((with_reducible show wpAny _ _ (isSubtype _ _) _ _ _); first | refine wpAny_of_eq (Mine.q_sub_tuple) ?_ | refine wpAny_of_eq (Mine.q_sub_dict) ?_ | refine wpAny_of_eq (Mine.q_sub_type) ?_) | ((with_reducible show wpAny _ _ (typeOf (Value.type _)) _ _ _); first | refine wpAny_of_eq (Mine.q_ty_object) ?_) | ((with_reducible show wpAny _ _ (typeLookup (Value.type _) _) _ _ _); first | refine wpAny_of_eq (Mine.q_dict_iter) ?_ | refine wpAny_of_eq (Mine.q_sn_function) ?_ | refine wpAny_of_eq (Mine.q_sn_str) ?_ | refine wpAny_of_eq (Mine.q_sn_list) ?_ | refine wpAny_of_eq (Mine.q_sn_int) ?_ | refine wpAny_of_eq (Mine.q_sn_tuple) ?_ | refine wpAny_of_eq (Mine.q_sn_none) ?_ | refine wpAny_of_eq (Mine.q_sn_md) ?_) | ((with_reducible show wpAny _ _ (Builtin.extendedBase _) _ _ _); first | refine wpAny_of_eq (Mine.q_ext) ?_) | ((with_reducible show wpAny _ _ (Builtin.mroHook? _) _ _ _); first | refine wpAny_of_eq (Mine.q_hook) ?_) | ((with_reducible show wpAny _ _ (Builtin.Slots.givesWeak _) _ _ _); first | refine wpAny_of_eq (Mine.q_weak) ?_) | ((with_reducible show wpAny _ _ (Builtin.Slots.givesDict _) _ _ _); first | refine wpAny_of_eq (Mine.q_gdict) ?_) | ((with_reducible show wpAny _ _ (Builtin.Slots.varSize _) _ _ _); first | refine wpAny_of_eq (Mine.q_var) ?_) | ((with_reducible show wpAny _ _ (Builtin.Slots.bestBase _) _ _ _); first | refine wpAny_of_eq (Mine.q_best) ?_) | ((with_reducible show wpAny _ _ (Builtin.linearize _ _) _ _ _); first | refine wpAny_of_eq (Mine.q_lin) ?_) | ((with_reducible show wpAny _ _ (Bind.madeBy _) _ _ _); first | refine wpAny_of_eq (Mine.q_made) ?_) | ((with_reducible show wpAny _ _ (Builtin.notOverATurnedClass _) _ _ _); first | refine wpAny_of_eq (Mine.q_turned) ?_) | ((with_reducible show wpAny _ _ (Builtin.noteSubclassOfBuiltin _ _) _ _ _); first | refine wpAny_of_eq (Mine.q_note _) ?_) | ((with_reducible show wpAny _ _ (Builtin.Slots.slotNamesOf _) _ _ _); first | refine wpAny_of_eq (Mine.q_slotNames) ?_) | ((with_reducible show wpAny _ _ (classOwn (Value.type _) _) _ _ _); first | refine wpAny_of_eq (Mine.q_own_new) ?_)) | (with_reducible refine Mine.wpAny_ifF (by kernel_rfl!) ?_) | (with_reducible refine Mine.wpAny_ifT (by kernel_rfl!) ?_) | ((fail_if_success (first | (with_reducible show wpAny _ _ (isSubtype _ _) _ _ _) | (with_reducible show wpAny _ _ (typeOf (Value.type _)) _ _ _) | (with_reducible show wpAny _ _ (typeLookup (Value.type _) _) _ _ _) | (with_reducible show wpAny _ _ (Builtin.extendedBase _) _ _ _) | (with_reducible show wpAny _ _ (Builtin.mroHook? _) _ _ _) | (with_reducible show wpAny _ _ (Builtin.Slots.givesWeak _) _ _ _) | (with_reducible show wpAny _ _ (Builtin.Slots.givesDict _) _ _ _) | (with_reducible show wpAny _ _ (Builtin.Slots.varSize _) _ _ _) | (with_reducible show wpAny _ _ (Builtin.Slots.bestBase _) _ _ _) | (with_reducible show wpAny _ _ (Builtin.linearize _ _) _ _ _) | (with_reducible show wpAny _ _ (Bind.madeBy _) _ _ _) | (with_reducible show wpAny _ _ (Builtin.notOverATurnedClass _) _ _ _) | (with_reducible show wpAny _ _ (Builtin.noteSubclassOfBuiltin _ _) _ _ _) | (with_reducible show wpAny _ _ (Builtin.Slots.slotNamesOf _) _ _ _) | (with_reducible show wpAny _ _ (mroOf (Value.type _)) _ _ _) | (with_reducible show wpAny _ _ (classOwn (Value.type _) _) _ _ _) | (with_reducible show wpAny _ _ (Builtin.Slots.read _ _ _) _ _ _) | (with_reducible show wpAny _ _ (Sem.update _ _ _ _) _ _ _) | (with_reducible show wpAny _ _ (Sem.alloc _ _) _ _ _) | (with_reducible show wpAny _ _ (collect _) _ _ _) | (with_reducible show wpAny _ _ (call _ _ _) _ _ _) | (with_reducible show wpAny _ _ (Builtin.Slots.install _ _ _ _) _ _ _) | (with_reducible show wpAny _ _ (Bind.refreshMaker _) _ _ _))); k_node))
  exact at_eq (by kernel_rfl) (x _ _ _ D)
theorem any_tail {C : Addr} {F : Value → Sem Bool} (hf : F (.type "object") = pure false) : List.anyM F (List.filter (fun x => x != Value.ref C) [Value.ref C, .type "object"]) = pure false := by
  have : List.filter (fun x => x != Value.ref C) [Value.ref C, .type "object"] = [.type "object"] := by
    rw [List.filter_cons_of_neg (by simp), List.filter_cons_of_pos (by rfl)]; rfl
  rw [this, List.anyM, hf]
  rfl
theorem newK {h : Heap} {g : Array GenState} {d : Drawn} {t : Nat} {os : OsState} {e : Nat → Int} {k u : Nat → Tok} {bt nsA sl sa : Addr} {f : Nat → Addr} {fd : Nat → FuncData} {t0 u3 tN : Tok} {n1 n2 n3 n4 : Nat} {Q : PySem.Fin → Shared → Prop} (r : Room A 12) (KX : (KP w.params).In h)
    (h1 : h.get? bt = some (tupO [.type "object"] n1)) (h2 : h.get? sl = some (listO [.str "obj" t0] n2)) (hne : nsA ≠ 1)
    (g0 : ∀ i, i < 6 → h.get? (f i) = some { cls := .type "function", data := .func (fd i) }) (g6 : h.get? sa = some (tupO [.str "obj" u3] n3))
    (h4 : h.get? nsA = some (dictOf (entA e k u sl sa f) n4))
    (hq : ∀ C ns md n t1 t2 h' tk, (∀ b o, h.get? b = some o → h'.get? b = some o) → h.get? C = none → h.get? ns = none → h.get? md = none → h'.get? C = some (clsK C ns bt tN (u 2)) → h'.get? ns = some (dictOf (entB w e k u sl sa f md t1 t2) n) →
      h'.get? md = some { cls := .type "member_descriptor", data := .fields #[.str "obj" t, .ref C, .builtin "proto.slot", .builtin "proto.slot#set", rawInt 0] } → Q (.done (.ret (.ref C))) ⟨h', g, d, tk, os⟩) :
    wpAny (model prog w) A (Builtin.«type.__new__» ⟨[.type "type", .str "K" tN, .ref bt, .ref nsA], []⟩) Q NoE ⟨h, g, d, t, os⟩ := by
  have D := Mem.start h
  have g00 := g0 0 (by decide)
  have g01 := g0 1 (by decide)
  have g02 := g0 2 (by decide)
  have g03 := g0 3 (by decide)
  have g04 := g0 4 (by decide)
  have g05 := g0 5 (by decide)
  repeat (first | with_reducible refine Mine.nd_tryCatch ?_ | with_reducible refine wpAny_holding ?_ | k_unfold | (with_reducible refine wpAny_bind ?_; k_fold) | (with_reducible refine nd_bind ?_; k_fold) | with_reducible refine wpAny_holding ?_ | with_reducible refine wpAny_keep ?_ | (with_reducible refine wpAny_onRaise ?_; k_fold) | (with_reducible refine wpAny_tryCatch ?_; k_fold) | (with_reducible refine Mine.nd_tryCatch ?_; k_fold) | (with_reducible refine wpAny_attempt ?_; k_fold) | (with_reducible refine Mine.m_load (by first | exact PySem.W.X.Mem.at (by assumption) 0 _ _ rfl | exact PySem.W.X.Mem.at (by assumption) 1 _ _ rfl | exact PySem.W.X.Mem.at (by assumption) 2 _ _ rfl | exact PySem.W.X.Mem.at (by assumption) 3 _ _ rfl | exact PySem.W.X.Mem.old (by assumption) _ _ (by assumption) rfl) ?_) | ((with_reducible show wpAny _ _ (Sem.update _ _ _ _) _ _ _); first | (refine Mine.m_update (by assumption) 0 rfl _ rfl rfl ?_; intro _ _) | (refine Mine.m_update (by assumption) 1 rfl _ rfl rfl ?_; intro _ _) | (refine Mine.m_update (by assumption) 2 rfl _ rfl rfl ?_; intro _ _) | (refine Mine.m_update (by assumption) 3 rfl _ rfl rfl ?_; intro _ _)) | (first | ((with_reducible show wpAny _ _ (isSubtype _ _) _ _ _); first | refine wpAny_of_eq (Mine.q_sub_tuple) ?_ | refine wpAny_of_eq (Mine.q_sub_dict) ?_ | refine wpAny_of_eq (Mine.q_sub_type) ?_) | ((with_reducible show wpAny _ _ (typeOf (Value.type _)) _ _ _); first | refine wpAny_of_eq (Mine.q_ty_object) ?_) | ((with_reducible show wpAny _ _ (typeLookup (Value.type _) _) _ _ _); first | refine wpAny_of_eq (Mine.q_dict_iter) ?_ | refine wpAny_of_eq (Mine.q_sn_function) ?_ | refine wpAny_of_eq (Mine.q_sn_str) ?_ | refine wpAny_of_eq (Mine.q_sn_list) ?_ | refine wpAny_of_eq (Mine.q_sn_int) ?_ | refine wpAny_of_eq (Mine.q_sn_tuple) ?_ | refine wpAny_of_eq (Mine.q_sn_none) ?_ | refine wpAny_of_eq (Mine.q_sn_md) ?_) | ((with_reducible show wpAny _ _ (Builtin.extendedBase _) _ _ _); first | refine wpAny_of_eq (Mine.q_ext) ?_) | ((with_reducible show wpAny _ _ (Builtin.mroHook? _) _ _ _); first | refine wpAny_of_eq (Mine.q_hook) ?_) | ((with_reducible show wpAny _ _ (Builtin.Slots.givesWeak _) _ _ _); first | refine wpAny_of_eq (Mine.q_weak) ?_) | ((with_reducible show wpAny _ _ (Builtin.Slots.givesDict _) _ _ _); first | refine wpAny_of_eq (Mine.q_gdict) ?_) | ((with_reducible show wpAny _ _ (Builtin.Slots.varSize _) _ _ _); first | refine wpAny_of_eq (Mine.q_var) ?_) | ((with_reducible show wpAny _ _ (Builtin.Slots.bestBase _) _ _ _); first | refine wpAny_of_eq (Mine.q_best) ?_) | ((with_reducible show wpAny _ _ (Builtin.linearize _ _) _ _ _); first | refine wpAny_of_eq (Mine.q_lin) ?_) | ((with_reducible show wpAny _ _ (Bind.madeBy _) _ _ _); first | refine wpAny_of_eq (Mine.q_made) ?_) | ((with_reducible show wpAny _ _ (Builtin.notOverATurnedClass _) _ _ _); first | refine wpAny_of_eq (Mine.q_turned) ?_) | ((with_reducible show wpAny _ _ (Builtin.noteSubclassOfBuiltin _ _) _ _ _); first | refine wpAny_of_eq (Mine.q_note _) ?_) | ((with_reducible show wpAny _ _ (Builtin.Slots.slotNamesOf _) _ _ _); first | refine wpAny_of_eq (Mine.q_slotNames) ?_) | ((with_reducible show wpAny _ _ (classOwn (Value.type _) _) _ _ _); first | refine wpAny_of_eq (Mine.q_own_new) ?_)) | (with_reducible refine Mine.wpAny_ifF (by kernel_rfl!) ?_) | (with_reducible refine Mine.wpAny_ifT (by kernel_rfl!) ?_) | ((fail_if_success (first | (with_reducible show wpAny _ _ (isSubtype _ _) _ _ _) | (with_reducible show wpAny _ _ (typeOf (Value.type _)) _ _ _) | (with_reducible show wpAny _ _ (typeLookup (Value.type _) _) _ _ _) | (with_reducible show wpAny _ _ (Builtin.extendedBase _) _ _ _) | (with_reducible show wpAny _ _ (Builtin.mroHook? _) _ _ _) | (with_reducible show wpAny _ _ (Builtin.Slots.givesWeak _) _ _ _) | (with_reducible show wpAny _ _ (Builtin.Slots.givesDict _) _ _ _) | (with_reducible show wpAny _ _ (Builtin.Slots.varSize _) _ _ _) | (with_reducible show wpAny _ _ (Builtin.Slots.bestBase _) _ _ _) | (with_reducible show wpAny _ _ (Builtin.linearize _ _) _ _ _) | (with_reducible show wpAny _ _ (Bind.madeBy _) _ _ _) | (with_reducible show wpAny _ _ (Builtin.notOverATurnedClass _) _ _ _) | (with_reducible show wpAny _ _ (Builtin.noteSubclassOfBuiltin _ _) _ _ _) | (with_reducible show wpAny _ _ (Builtin.Slots.slotNamesOf _) _ _ _) | (with_reducible show wpAny _ _ (mroOf (Value.type _)) _ _ _) | (with_reducible show wpAny _ _ (classOwn (Value.type _) _) _ _ _) | (with_reducible show wpAny _ _ (Builtin.Slots.read _ _ _) _ _ _) | (with_reducible show wpAny _ _ (Sem.update _ _ _ _) _ _ _) | (with_reducible show wpAny _ _ (Sem.alloc _ _) _ _ _) | (with_reducible show wpAny _ _ (collect _) _ _ _) | (with_reducible show wpAny _ _ (call _ _ _) _ _ _) | (with_reducible show wpAny _ _ (Builtin.Slots.install _ _ _ _) _ _ _) | (with_reducible show wpAny _ _ (Bind.refreshMaker _) _ _ _))); k_node))
  refine wpAny_ifF (beq_eq_false_iff_ne.mpr hne) ?_
  repeat (first | with_reducible refine Mine.nd_tryCatch ?_ | with_reducible refine wpAny_holding ?_ | k_unfold | (with_reducible refine wpAny_bind ?_; k_fold) | (with_reducible refine nd_bind ?_; k_fold) | with_reducible refine wpAny_holding ?_ | with_reducible refine wpAny_keep ?_ | (with_reducible refine wpAny_onRaise ?_; k_fold) | (with_reducible refine wpAny_tryCatch ?_; k_fold) | (with_reducible refine Mine.nd_tryCatch ?_; k_fold) | (with_reducible refine wpAny_attempt ?_; k_fold) | (with_reducible refine Mine.m_load (by first | exact PySem.W.X.Mem.at (by assumption) 0 _ _ rfl | exact PySem.W.X.Mem.at (by assumption) 1 _ _ rfl | exact PySem.W.X.Mem.at (by assumption) 2 _ _ rfl | exact PySem.W.X.Mem.at (by assumption) 3 _ _ rfl | exact PySem.W.X.Mem.old (by assumption) _ _ (by assumption) rfl) ?_) | ((with_reducible show wpAny _ _ (Sem.update _ _ _ _) _ _ _); first | (refine Mine.m_update (by assumption) 0 rfl _ rfl rfl ?_; intro _ _) | (refine Mine.m_update (by assumption) 1 rfl _ rfl rfl ?_; intro _ _) | (refine Mine.m_update (by assumption) 2 rfl _ rfl rfl ?_; intro _ _) | (refine Mine.m_update (by assumption) 3 rfl _ rfl rfl ?_; intro _ _)) | (first | ((with_reducible show wpAny _ _ (isSubtype _ _) _ _ _); first | refine wpAny_of_eq (Mine.q_sub_tuple) ?_ | refine wpAny_of_eq (Mine.q_sub_dict) ?_ | refine wpAny_of_eq (Mine.q_sub_type) ?_) | ((with_reducible show wpAny _ _ (typeOf (Value.type _)) _ _ _); first | refine wpAny_of_eq (Mine.q_ty_object) ?_) | ((with_reducible show wpAny _ _ (typeLookup (Value.type _) _) _ _ _); first | refine wpAny_of_eq (Mine.q_dict_iter) ?_ | refine wpAny_of_eq (Mine.q_sn_function) ?_ | refine wpAny_of_eq (Mine.q_sn_str) ?_ | refine wpAny_of_eq (Mine.q_sn_list) ?_ | refine wpAny_of_eq (Mine.q_sn_int) ?_ | refine wpAny_of_eq (Mine.q_sn_tuple) ?_ | refine wpAny_of_eq (Mine.q_sn_none) ?_ | refine wpAny_of_eq (Mine.q_sn_md) ?_) | ((with_reducible show wpAny _ _ (Builtin.extendedBase _) _ _ _); first | refine wpAny_of_eq (Mine.q_ext) ?_) | ((with_reducible show wpAny _ _ (Builtin.mroHook? _) _ _ _); first | refine wpAny_of_eq (Mine.q_hook) ?_) | ((with_reducible show wpAny _ _ (Builtin.Slots.givesWeak _) _ _ _); first | refine wpAny_of_eq (Mine.q_weak) ?_) | ((with_reducible show wpAny _ _ (Builtin.Slots.givesDict _) _ _ _); first | refine wpAny_of_eq (Mine.q_gdict) ?_) | ((with_reducible show wpAny _ _ (Builtin.Slots.varSize _) _ _ _); first | refine wpAny_of_eq (Mine.q_var) ?_) | ((with_reducible show wpAny _ _ (Builtin.Slots.bestBase _) _ _ _); first | refine wpAny_of_eq (Mine.q_best) ?_) | ((with_reducible show wpAny _ _ (Builtin.linearize _ _) _ _ _); first | refine wpAny_of_eq (Mine.q_lin) ?_) | ((with_reducible show wpAny _ _ (Bind.madeBy _) _ _ _); first | refine wpAny_of_eq (Mine.q_made) ?_) | ((with_reducible show wpAny _ _ (Builtin.notOverATurnedClass _) _ _ _); first | refine wpAny_of_eq (Mine.q_turned) ?_) | ((with_reducible show wpAny _ _ (Builtin.noteSubclassOfBuiltin _ _) _ _ _); first | refine wpAny_of_eq (Mine.q_note _) ?_) | ((with_reducible show wpAny _ _ (Builtin.Slots.slotNamesOf _) _ _ _); first | refine wpAny_of_eq (Mine.q_slotNames) ?_) | ((with_reducible show wpAny _ _ (classOwn (Value.type _) _) _ _ _); first | refine wpAny_of_eq (Mine.q_own_new) ?_)) | (with_reducible refine Mine.wpAny_ifF (by kernel_rfl!) ?_) | (with_reducible refine Mine.wpAny_ifT (by kernel_rfl!) ?_) | ((fail_if_success (first | (with_reducible show wpAny _ _ (isSubtype _ _) _ _ _) | (with_reducible show wpAny _ _ (typeOf (Value.type _)) _ _ _) | (with_reducible show wpAny _ _ (typeLookup (Value.type _) _) _ _ _) | (with_reducible show wpAny _ _ (Builtin.extendedBase _) _ _ _) | (with_reducible show wpAny _ _ (Builtin.mroHook? _) _ _ _) | (with_reducible show wpAny _ _ (Builtin.Slots.givesWeak _) _ _ _) | (with_reducible show wpAny _ _ (Builtin.Slots.givesDict _) _ _ _) | (with_reducible show wpAny _ _ (Builtin.Slots.varSize _) _ _ _) | (with_reducible show wpAny _ _ (Builtin.Slots.bestBase _) _ _ _) | (with_reducible show wpAny _ _ (Builtin.linearize _ _) _ _ _) | (with_reducible show wpAny _ _ (Bind.madeBy _) _ _ _) | (with_reducible show wpAny _ _ (Builtin.notOverATurnedClass _) _ _ _) | (with_reducible show wpAny _ _ (Builtin.noteSubclassOfBuiltin _ _) _ _ _) | (with_reducible show wpAny _ _ (Builtin.Slots.slotNamesOf _) _ _ _) | (with_reducible show wpAny _ _ (mroOf (Value.type _)) _ _ _) | (with_reducible show wpAny _ _ (classOwn (Value.type _) _) _ _ _) | (with_reducible show wpAny _ _ (Builtin.Slots.read _ _ _) _ _ _) | (with_reducible show wpAny _ _ (Sem.update _ _ _ _) _ _ _) | (with_reducible show wpAny _ _ (Sem.alloc _ _) _ _ _) | (with_reducible show wpAny _ _ (collect _) _ _ _) | (with_reducible show wpAny _ _ (call _ _ _) _ _ _) | (with_reducible show wpAny _ _ (Builtin.Slots.install _ _ _ _) _ _ _) | (with_reducible show wpAny _ _ (Bind.refreshMaker _) _ _ _))); k_node))
  refine readK D h2 ?_
  clear D
  intro a1 hh1 o1 D
  repeat (first | with_reducible refine Mine.nd_tryCatch ?_ | with_reducible refine wpAny_holding ?_ | k_unfold | (with_reducible refine wpAny_bind ?_; k_fold) | (with_reducible refine nd_bind ?_; k_fold) | with_reducible refine wpAny_holding ?_ | with_reducible refine wpAny_keep ?_ | (with_reducible refine wpAny_onRaise ?_; k_fold) | (with_reducible refine wpAny_tryCatch ?_; k_fold) | (with_reducible refine Mine.nd_tryCatch ?_; k_fold) | (with_reducible refine wpAny_attempt ?_; k_fold) | (with_reducible refine Mine.m_load (by first | exact PySem.W.X.Mem.at (by assumption) 0 _ _ rfl | exact PySem.W.X.Mem.at (by assumption) 1 _ _ rfl | exact PySem.W.X.Mem.at (by assumption) 2 _ _ rfl | exact PySem.W.X.Mem.at (by assumption) 3 _ _ rfl | exact PySem.W.X.Mem.old (by assumption) _ _ (by assumption) rfl) ?_) | ((with_reducible show wpAny _ _ (Sem.update _ _ _ _) _ _ _); first | (refine Mine.m_update (by assumption) 0 rfl _ rfl rfl ?_; intro _ _) | (refine Mine.m_update (by assumption) 1 rfl _ rfl rfl ?_; intro _ _) | (refine Mine.m_update (by assumption) 2 rfl _ rfl rfl ?_; intro _ _) | (refine Mine.m_update (by assumption) 3 rfl _ rfl rfl ?_; intro _ _)) | (first | ((with_reducible show wpAny _ _ (isSubtype _ _) _ _ _); first | refine wpAny_of_eq (Mine.q_sub_tuple) ?_ | refine wpAny_of_eq (Mine.q_sub_dict) ?_ | refine wpAny_of_eq (Mine.q_sub_type) ?_) | ((with_reducible show wpAny _ _ (typeOf (Value.type _)) _ _ _); first | refine wpAny_of_eq (Mine.q_ty_object) ?_) | ((with_reducible show wpAny _ _ (typeLookup (Value.type _) _) _ _ _); first | refine wpAny_of_eq (Mine.q_dict_iter) ?_ | refine wpAny_of_eq (Mine.q_sn_function) ?_ | refine wpAny_of_eq (Mine.q_sn_str) ?_ | refine wpAny_of_eq (Mine.q_sn_list) ?_ | refine wpAny_of_eq (Mine.q_sn_int) ?_ | refine wpAny_of_eq (Mine.q_sn_tuple) ?_ | refine wpAny_of_eq (Mine.q_sn_none) ?_ | refine wpAny_of_eq (Mine.q_sn_md) ?_) | ((with_reducible show wpAny _ _ (Builtin.extendedBase _) _ _ _); first | refine wpAny_of_eq (Mine.q_ext) ?_) | ((with_reducible show wpAny _ _ (Builtin.mroHook? _) _ _ _); first | refine wpAny_of_eq (Mine.q_hook) ?_) | ((with_reducible show wpAny _ _ (Builtin.Slots.givesWeak _) _ _ _); first | refine wpAny_of_eq (Mine.q_weak) ?_) | ((with_reducible show wpAny _ _ (Builtin.Slots.givesDict _) _ _ _); first | refine wpAny_of_eq (Mine.q_gdict) ?_) | ((with_reducible show wpAny _ _ (Builtin.Slots.varSize _) _ _ _); first | refine wpAny_of_eq (Mine.q_var) ?_) | ((with_reducible show wpAny _ _ (Builtin.Slots.bestBase _) _ _ _); first | refine wpAny_of_eq (Mine.q_best) ?_) | ((with_reducible show wpAny _ _ (Builtin.linearize _ _) _ _ _); first | refine wpAny_of_eq (Mine.q_lin) ?_) | ((with_reducible show wpAny _ _ (Bind.madeBy _) _ _ _); first | refine wpAny_of_eq (Mine.q_made) ?_) | ((with_reducible show wpAny _ _ (Builtin.notOverATurnedClass _) _ _ _); first | refine wpAny_of_eq (Mine.q_turned) ?_) | ((with_reducible show wpAny _ _ (Builtin.noteSubclassOfBuiltin _ _) _ _ _); first | refine wpAny_of_eq (Mine.q_note _) ?_) | ((with_reducible show wpAny _ _ (Builtin.Slots.slotNamesOf _) _ _ _); first | refine wpAny_of_eq (Mine.q_slotNames) ?_) | ((with_reducible show wpAny _ _ (classOwn (Value.type _) _) _ _ _); first | refine wpAny_of_eq (Mine.q_own_new) ?_)) | (with_reducible refine Mine.wpAny_ifF (by kernel_rfl!) ?_) | (with_reducible refine Mine.wpAny_ifT (by kernel_rfl!) ?_) | ((fail_if_success (first | (with_reducible show wpAny _ _ (isSubtype _ _) _ _ _) | (with_reducible show wpAny _ _ (typeOf (Value.type _)) _ _ _) | (with_reducible show wpAny _ _ (typeLookup (Value.type _) _) _ _ _) | (with_reducible show wpAny _ _ (Builtin.extendedBase _) _ _ _) | (with_reducible show wpAny _ _ (Builtin.mroHook? _) _ _ _) | (with_reducible show wpAny _ _ (Builtin.Slots.givesWeak _) _ _ _) | (with_reducible show wpAny _ _ (Builtin.Slots.givesDict _) _ _ _) | (with_reducible show wpAny _ _ (Builtin.Slots.varSize _) _ _ _) | (with_reducible show wpAny _ _ (Builtin.Slots.bestBase _) _ _ _) | (with_reducible show wpAny _ _ (Builtin.linearize _ _) _ _ _) | (with_reducible show wpAny _ _ (Bind.madeBy _) _ _ _) | (with_reducible show wpAny _ _ (Builtin.notOverATurnedClass _) _ _ _) | (with_reducible show wpAny _ _ (Builtin.noteSubclassOfBuiltin _ _) _ _ _) | (with_reducible show wpAny _ _ (Builtin.Slots.slotNamesOf _) _ _ _) | (with_reducible show wpAny _ _ (mroOf (Value.type _)) _ _ _) | (with_reducible show wpAny _ _ (classOwn (Value.type _) _) _ _ _) | (with_reducible show wpAny _ _ (Builtin.Slots.read _ _ _) _ _ _) | (with_reducible show wpAny _ _ (Sem.update _ _ _ _) _ _ _) | (with_reducible show wpAny _ _ (Sem.alloc _ _) _ _ _) | (with_reducible show wpAny _ _ (collect _) _ _ _) | (with_reducible show wpAny _ _ (call _ _ _) _ _ _) | (with_reducible show wpAny _ _ (Builtin.Slots.install _ _ _ _) _ _ _) | (with_reducible show wpAny _ _ (Bind.refreshMaker _) _ _ _))); k_node))
  refine m_alloc D rfl ?_
  intro ns hh2 D2
  repeat (first | with_reducible refine Mine.nd_tryCatch ?_ | with_reducible refine wpAny_holding ?_ | k_unfold | (with_reducible refine wpAny_bind ?_; k_fold) | (with_reducible refine nd_bind ?_; k_fold) | with_reducible refine wpAny_holding ?_ | with_reducible refine wpAny_keep ?_ | (with_reducible refine wpAny_onRaise ?_; k_fold) | (with_reducible refine wpAny_tryCatch ?_; k_fold) | (with_reducible refine Mine.nd_tryCatch ?_; k_fold) | (with_reducible refine wpAny_attempt ?_; k_fold) | (with_reducible refine Mine.m_load (by first | exact PySem.W.X.Mem.at (by assumption) 0 _ _ rfl | exact PySem.W.X.Mem.at (by assumption) 1 _ _ rfl | exact PySem.W.X.Mem.at (by assumption) 2 _ _ rfl | exact PySem.W.X.Mem.at (by assumption) 3 _ _ rfl | exact PySem.W.X.Mem.old (by assumption) _ _ (by assumption) rfl) ?_) | ((with_reducible show wpAny _ _ (Sem.update _ _ _ _) _ _ _); first | (refine Mine.m_update (by assumption) 0 rfl _ rfl rfl ?_; intro _ _) | (refine Mine.m_update (by assumption) 1 rfl _ rfl rfl ?_; intro _ _) | (refine Mine.m_update (by assumption) 2 rfl _ rfl rfl ?_; intro _ _) | (refine Mine.m_update (by assumption) 3 rfl _ rfl rfl ?_; intro _ _)) | (first | ((with_reducible show wpAny _ _ (isSubtype _ _) _ _ _); first | refine wpAny_of_eq (Mine.q_sub_tuple) ?_ | refine wpAny_of_eq (Mine.q_sub_dict) ?_ | refine wpAny_of_eq (Mine.q_sub_type) ?_) | ((with_reducible show wpAny _ _ (typeOf (Value.type _)) _ _ _); first | refine wpAny_of_eq (Mine.q_ty_object) ?_) | ((with_reducible show wpAny _ _ (typeLookup (Value.type _) _) _ _ _); first | refine wpAny_of_eq (Mine.q_dict_iter) ?_ | refine wpAny_of_eq (Mine.q_sn_function) ?_ | refine wpAny_of_eq (Mine.q_sn_str) ?_ | refine wpAny_of_eq (Mine.q_sn_list) ?_ | refine wpAny_of_eq (Mine.q_sn_int) ?_ | refine wpAny_of_eq (Mine.q_sn_tuple) ?_ | refine wpAny_of_eq (Mine.q_sn_none) ?_ | refine wpAny_of_eq (Mine.q_sn_md) ?_) | ((with_reducible show wpAny _ _ (Builtin.extendedBase _) _ _ _); first | refine wpAny_of_eq (Mine.q_ext) ?_) | ((with_reducible show wpAny _ _ (Builtin.mroHook? _) _ _ _); first | refine wpAny_of_eq (Mine.q_hook) ?_) | ((with_reducible show wpAny _ _ (Builtin.Slots.givesWeak _) _ _ _); first | refine wpAny_of_eq (Mine.q_weak) ?_) | ((with_reducible show wpAny _ _ (Builtin.Slots.givesDict _) _ _ _); first | refine wpAny_of_eq (Mine.q_gdict) ?_) | ((with_reducible show wpAny _ _ (Builtin.Slots.varSize _) _ _ _); first | refine wpAny_of_eq (Mine.q_var) ?_) | ((with_reducible show wpAny _ _ (Builtin.Slots.bestBase _) _ _ _); first | refine wpAny_of_eq (Mine.q_best) ?_) | ((with_reducible show wpAny _ _ (Builtin.linearize _ _) _ _ _); first | refine wpAny_of_eq (Mine.q_lin) ?_) | ((with_reducible show wpAny _ _ (Bind.madeBy _) _ _ _); first | refine wpAny_of_eq (Mine.q_made) ?_) | ((with_reducible show wpAny _ _ (Builtin.notOverATurnedClass _) _ _ _); first | refine wpAny_of_eq (Mine.q_turned) ?_) | ((with_reducible show wpAny _ _ (Builtin.noteSubclassOfBuiltin _ _) _ _ _); first | refine wpAny_of_eq (Mine.q_note _) ?_) | ((with_reducible show wpAny _ _ (Builtin.Slots.slotNamesOf _) _ _ _); first | refine wpAny_of_eq (Mine.q_slotNames) ?_) | ((with_reducible show wpAny _ _ (classOwn (Value.type _) _) _ _ _); first | refine wpAny_of_eq (Mine.q_own_new) ?_)) | (with_reducible refine Mine.wpAny_ifF (by kernel_rfl!) ?_) | (with_reducible refine Mine.wpAny_ifT (by kernel_rfl!) ?_) | ((fail_if_success (first | (with_reducible show wpAny _ _ (isSubtype _ _) _ _ _) | (with_reducible show wpAny _ _ (typeOf (Value.type _)) _ _ _) | (with_reducible show wpAny _ _ (typeLookup (Value.type _) _) _ _ _) | (with_reducible show wpAny _ _ (Builtin.extendedBase _) _ _ _) | (with_reducible show wpAny _ _ (Builtin.mroHook? _) _ _ _) | (with_reducible show wpAny _ _ (Builtin.Slots.givesWeak _) _ _ _) | (with_reducible show wpAny _ _ (Builtin.Slots.givesDict _) _ _ _) | (with_reducible show wpAny _ _ (Builtin.Slots.varSize _) _ _ _) | (with_reducible show wpAny _ _ (Builtin.Slots.bestBase _) _ _ _) | (with_reducible show wpAny _ _ (Builtin.linearize _ _) _ _ _) | (with_reducible show wpAny _ _ (Bind.madeBy _) _ _ _) | (with_reducible show wpAny _ _ (Builtin.notOverATurnedClass _) _ _ _) | (with_reducible show wpAny _ _ (Builtin.noteSubclassOfBuiltin _ _) _ _ _) | (with_reducible show wpAny _ _ (Builtin.Slots.slotNamesOf _) _ _ _) | (with_reducible show wpAny _ _ (mroOf (Value.type _)) _ _ _) | (with_reducible show wpAny _ _ (classOwn (Value.type _) _) _ _ _) | (with_reducible show wpAny _ _ (Builtin.Slots.read _ _ _) _ _ _) | (with_reducible show wpAny _ _ (Sem.update _ _ _ _) _ _ _) | (with_reducible show wpAny _ _ (Sem.alloc _ _) _ _ _) | (with_reducible show wpAny _ _ (collect _) _ _ _) | (with_reducible show wpAny _ _ (call _ _ _) _ _ _) | (with_reducible show wpAny _ _ (Builtin.Slots.install _ _ _ _) _ _ _) | (with_reducible show wpAny _ _ (Bind.refreshMaker _) _ _ _))); k_node))
  refine m_alloc D2 rfl ?_
  intro C hh3 D3
  repeat (first | with_reducible refine Mine.nd_tryCatch ?_ | with_reducible refine wpAny_holding ?_ | k_unfold | (with_reducible refine wpAny_bind ?_; k_fold) | (with_reducible refine nd_bind ?_; k_fold) | with_reducible refine wpAny_holding ?_ | with_reducible refine wpAny_keep ?_ | (with_reducible refine wpAny_onRaise ?_; k_fold) | (with_reducible refine wpAny_tryCatch ?_; k_fold) | (with_reducible refine Mine.nd_tryCatch ?_; k_fold) | (with_reducible refine wpAny_attempt ?_; k_fold) | (with_reducible refine Mine.m_load (by first | exact PySem.W.X.Mem.at (by assumption) 0 _ _ rfl | exact PySem.W.X.Mem.at (by assumption) 1 _ _ rfl | exact PySem.W.X.Mem.at (by assumption) 2 _ _ rfl | exact PySem.W.X.Mem.at (by assumption) 3 _ _ rfl | exact PySem.W.X.Mem.old (by assumption) _ _ (by assumption) rfl) ?_) | ((with_reducible show wpAny _ _ (Sem.update _ _ _ _) _ _ _); first | (refine Mine.m_update (by assumption) 0 rfl _ rfl rfl ?_; intro _ _) | (refine Mine.m_update (by assumption) 1 rfl _ rfl rfl ?_; intro _ _) | (refine Mine.m_update (by assumption) 2 rfl _ rfl rfl ?_; intro _ _) | (refine Mine.m_update (by assumption) 3 rfl _ rfl rfl ?_; intro _ _)) | (first | ((with_reducible show wpAny _ _ (isSubtype _ _) _ _ _); first | refine wpAny_of_eq (Mine.q_sub_tuple) ?_ | refine wpAny_of_eq (Mine.q_sub_dict) ?_ | refine wpAny_of_eq (Mine.q_sub_type) ?_) | ((with_reducible show wpAny _ _ (typeOf (Value.type _)) _ _ _); first | refine wpAny_of_eq (Mine.q_ty_object) ?_) | ((with_reducible show wpAny _ _ (typeLookup (Value.type _) _) _ _ _); first | refine wpAny_of_eq (Mine.q_dict_iter) ?_ | refine wpAny_of_eq (Mine.q_sn_function) ?_ | refine wpAny_of_eq (Mine.q_sn_str) ?_ | refine wpAny_of_eq (Mine.q_sn_list) ?_ | refine wpAny_of_eq (Mine.q_sn_int) ?_ | refine wpAny_of_eq (Mine.q_sn_tuple) ?_ | refine wpAny_of_eq (Mine.q_sn_none) ?_ | refine wpAny_of_eq (Mine.q_sn_md) ?_) | ((with_reducible show wpAny _ _ (Builtin.extendedBase _) _ _ _); first | refine wpAny_of_eq (Mine.q_ext) ?_) | ((with_reducible show wpAny _ _ (Builtin.mroHook? _) _ _ _); first | refine wpAny_of_eq (Mine.q_hook) ?_) | ((with_reducible show wpAny _ _ (Builtin.Slots.givesWeak _) _ _ _); first | refine wpAny_of_eq (Mine.q_weak) ?_) | ((with_reducible show wpAny _ _ (Builtin.Slots.givesDict _) _ _ _); first | refine wpAny_of_eq (Mine.q_gdict) ?_) | ((with_reducible show wpAny _ _ (Builtin.Slots.varSize _) _ _ _); first | refine wpAny_of_eq (Mine.q_var) ?_) | ((with_reducible show wpAny _ _ (Builtin.Slots.bestBase _) _ _ _); first | refine wpAny_of_eq (Mine.q_best) ?_) | ((with_reducible show wpAny _ _ (Builtin.linearize _ _) _ _ _); first | refine wpAny_of_eq (Mine.q_lin) ?_) | ((with_reducible show wpAny _ _ (Bind.madeBy _) _ _ _); first | refine wpAny_of_eq (Mine.q_made) ?_) | ((with_reducible show wpAny _ _ (Builtin.notOverATurnedClass _) _ _ _); first | refine wpAny_of_eq (Mine.q_turned) ?_) | ((with_reducible show wpAny _ _ (Builtin.noteSubclassOfBuiltin _ _) _ _ _); first | refine wpAny_of_eq (Mine.q_note _) ?_) | ((with_reducible show wpAny _ _ (Builtin.Slots.slotNamesOf _) _ _ _); first | refine wpAny_of_eq (Mine.q_slotNames) ?_) | ((with_reducible show wpAny _ _ (classOwn (Value.type _) _) _ _ _); first | refine wpAny_of_eq (Mine.q_own_new) ?_)) | (with_reducible refine Mine.wpAny_ifF (by kernel_rfl!) ?_) | (with_reducible refine Mine.wpAny_ifT (by kernel_rfl!) ?_) | ((fail_if_success (first | (with_reducible show wpAny _ _ (isSubtype _ _) _ _ _) | (with_reducible show wpAny _ _ (typeOf (Value.type _)) _ _ _) | (with_reducible show wpAny _ _ (typeLookup (Value.type _) _) _ _ _) | (with_reducible show wpAny _ _ (Builtin.extendedBase _) _ _ _) | (with_reducible show wpAny _ _ (Builtin.mroHook? _) _ _ _) | (with_reducible show wpAny _ _ (Builtin.Slots.givesWeak _) _ _ _) | (with_reducible show wpAny _ _ (Builtin.Slots.givesDict _) _ _ _) | (with_reducible show wpAny _ _ (Builtin.Slots.varSize _) _ _ _) | (with_reducible show wpAny _ _ (Builtin.Slots.bestBase _) _ _ _) | (with_reducible show wpAny _ _ (Builtin.linearize _ _) _ _ _) | (with_reducible show wpAny _ _ (Bind.madeBy _) _ _ _) | (with_reducible show wpAny _ _ (Builtin.notOverATurnedClass _) _ _ _) | (with_reducible show wpAny _ _ (Builtin.noteSubclassOfBuiltin _ _) _ _ _) | (with_reducible show wpAny _ _ (Builtin.Slots.slotNamesOf _) _ _ _) | (with_reducible show wpAny _ _ (mroOf (Value.type _)) _ _ _) | (with_reducible show wpAny _ _ (classOwn (Value.type _) _) _ _ _) | (with_reducible show wpAny _ _ (Builtin.Slots.read _ _ _) _ _ _) | (with_reducible show wpAny _ _ (Sem.update _ _ _ _) _ _ _) | (with_reducible show wpAny _ _ (Sem.alloc _ _) _ _ _) | (with_reducible show wpAny _ _ (collect _) _ _ _) | (with_reducible show wpAny _ _ (call _ _ _) _ _ _) | (with_reducible show wpAny _ _ (Builtin.Slots.install _ _ _ _) _ _ _) | (with_reducible show wpAny _ _ (Bind.refreshMaker _) _ _ _))); k_node))
  refine wpAny_of_eq (any_tail (by kernel_rfl!)) ?_
  repeat (first | with_reducible refine Mine.nd_tryCatch ?_ | with_reducible refine wpAny_holding ?_ | k_unfold | (with_reducible refine wpAny_bind ?_; k_fold) | (with_reducible refine nd_bind ?_; k_fold) | with_reducible refine wpAny_holding ?_ | with_reducible refine wpAny_keep ?_ | (with_reducible refine wpAny_onRaise ?_; k_fold) | (with_reducible refine wpAny_tryCatch ?_; k_fold) | (with_reducible refine Mine.nd_tryCatch ?_; k_fold) | (with_reducible refine wpAny_attempt ?_; k_fold) | (with_reducible refine Mine.m_load (by first | exact PySem.W.X.Mem.at (by assumption) 0 _ _ rfl | exact PySem.W.X.Mem.at (by assumption) 1 _ _ rfl | exact PySem.W.X.Mem.at (by assumption) 2 _ _ rfl | exact PySem.W.X.Mem.at (by assumption) 3 _ _ rfl | exact PySem.W.X.Mem.old (by assumption) _ _ (by assumption) rfl) ?_) | ((with_reducible show wpAny _ _ (Sem.update _ _ _ _) _ _ _); first | (refine Mine.m_update (by assumption) 0 rfl _ rfl rfl ?_; intro _ _) | (refine Mine.m_update (by assumption) 1 rfl _ rfl rfl ?_; intro _ _) | (refine Mine.m_update (by assumption) 2 rfl _ rfl rfl ?_; intro _ _) | (refine Mine.m_update (by assumption) 3 rfl _ rfl rfl ?_; intro _ _)) | (first | ((with_reducible show wpAny _ _ (isSubtype _ _) _ _ _); first | refine wpAny_of_eq (Mine.q_sub_tuple) ?_ | refine wpAny_of_eq (Mine.q_sub_dict) ?_ | refine wpAny_of_eq (Mine.q_sub_type) ?_) | ((with_reducible show wpAny _ _ (typeOf (Value.type _)) _ _ _); first | refine wpAny_of_eq (Mine.q_ty_object) ?_) | ((with_reducible show wpAny _ _ (typeLookup (Value.type _) _) _ _ _); first | refine wpAny_of_eq (Mine.q_dict_iter) ?_ | refine wpAny_of_eq (Mine.q_sn_function) ?_ | refine wpAny_of_eq (Mine.q_sn_str) ?_ | refine wpAny_of_eq (Mine.q_sn_list) ?_ | refine wpAny_of_eq (Mine.q_sn_int) ?_ | refine wpAny_of_eq (Mine.q_sn_tuple) ?_ | refine wpAny_of_eq (Mine.q_sn_none) ?_ | refine wpAny_of_eq (Mine.q_sn_md) ?_) | ((with_reducible show wpAny _ _ (Builtin.extendedBase _) _ _ _); first | refine wpAny_of_eq (Mine.q_ext) ?_) | ((with_reducible show wpAny _ _ (Builtin.mroHook? _) _ _ _); first | refine wpAny_of_eq (Mine.q_hook) ?_) | ((with_reducible show wpAny _ _ (Builtin.Slots.givesWeak _) _ _ _); first | refine wpAny_of_eq (Mine.q_weak) ?_) | ((with_reducible show wpAny _ _ (Builtin.Slots.givesDict _) _ _ _); first | refine wpAny_of_eq (Mine.q_gdict) ?_) | ((with_reducible show wpAny _ _ (Builtin.Slots.varSize _) _ _ _); first | refine wpAny_of_eq (Mine.q_var) ?_) | ((with_reducible show wpAny _ _ (Builtin.Slots.bestBase _) _ _ _); first | refine wpAny_of_eq (Mine.q_best) ?_) | ((with_reducible show wpAny _ _ (Builtin.linearize _ _) _ _ _); first | refine wpAny_of_eq (Mine.q_lin) ?_) | ((with_reducible show wpAny _ _ (Bind.madeBy _) _ _ _); first | refine wpAny_of_eq (Mine.q_made) ?_) | ((with_reducible show wpAny _ _ (Builtin.notOverATurnedClass _) _ _ _); first | refine wpAny_of_eq (Mine.q_turned) ?_) | ((with_reducible show wpAny _ _ (Builtin.noteSubclassOfBuiltin _ _) _ _ _); first | refine wpAny_of_eq (Mine.q_note _) ?_) | ((with_reducible show wpAny _ _ (Builtin.Slots.slotNamesOf _) _ _ _); first | refine wpAny_of_eq (Mine.q_slotNames) ?_) | ((with_reducible show wpAny _ _ (classOwn (Value.type _) _) _ _ _); first | refine wpAny_of_eq (Mine.q_own_new) ?_)) | (with_reducible refine Mine.wpAny_ifF (by kernel_rfl!) ?_) | (with_reducible refine Mine.wpAny_ifT (by kernel_rfl!) ?_) | ((fail_if_success (first | (with_reducible show wpAny _ _ (isSubtype _ _) _ _ _) | (with_reducible show wpAny _ _ (typeOf (Value.type _)) _ _ _) | (with_reducible show wpAny _ _ (typeLookup (Value.type _) _) _ _ _) | (with_reducible show wpAny _ _ (Builtin.extendedBase _) _ _ _) | (with_reducible show wpAny _ _ (Builtin.mroHook? _) _ _ _) | (with_reducible show wpAny _ _ (Builtin.Slots.givesWeak _) _ _ _) | (with_reducible show wpAny _ _ (Builtin.Slots.givesDict _) _ _ _) | (with_reducible show wpAny _ _ (Builtin.Slots.varSize _) _ _ _) | (with_reducible show wpAny _ _ (Builtin.Slots.bestBase _) _ _ _) | (with_reducible show wpAny _ _ (Builtin.linearize _ _) _ _ _) | (with_reducible show wpAny _ _ (Bind.madeBy _) _ _ _) | (with_reducible show wpAny _ _ (Builtin.notOverATurnedClass _) _ _ _) | (with_reducible show wpAny _ _ (Builtin.noteSubclassOfBuiltin _ _) _ _ _) | (with_reducible show wpAny _ _ (Builtin.Slots.slotNamesOf _) _ _ _) | (with_reducible show wpAny _ _ (mroOf (Value.type _)) _ _ _) | (with_reducible show wpAny _ _ (classOwn (Value.type _) _) _ _ _) | (with_reducible show wpAny _ _ (Builtin.Slots.read _ _ _) _ _ _) | (with_reducible show wpAny _ _ (Sem.update _ _ _ _) _ _ _) | (with_reducible show wpAny _ _ (Sem.alloc _ _) _ _ _) | (with_reducible show wpAny _ _ (collect _) _ _ _) | (with_reducible show wpAny _ _ (call _ _ _) _ _ _) | (with_reducible show wpAny _ _ (Builtin.Slots.install _ _ _ _) _ _ _) | (with_reducible show wpAny _ _ (Bind.refreshMaker _) _ _ _))); k_node))
  unfold Bind.refreshMaker
  repeat (first | with_reducible refine Mine.nd_tryCatch ?_ | with_reducible refine wpAny_holding ?_ | k_unfold | (with_reducible refine wpAny_bind ?_; k_fold) | (with_reducible refine nd_bind ?_; k_fold) | with_reducible refine wpAny_holding ?_ | with_reducible refine wpAny_keep ?_ | (with_reducible refine wpAny_onRaise ?_; k_fold) | (with_reducible refine wpAny_tryCatch ?_; k_fold) | (with_reducible refine Mine.nd_tryCatch ?_; k_fold) | (with_reducible refine wpAny_attempt ?_; k_fold) | (with_reducible refine Mine.m_load (by first | exact PySem.W.X.Mem.at (by assumption) 0 _ _ rfl | exact PySem.W.X.Mem.at (by assumption) 1 _ _ rfl | exact PySem.W.X.Mem.at (by assumption) 2 _ _ rfl | exact PySem.W.X.Mem.at (by assumption) 3 _ _ rfl | exact PySem.W.X.Mem.old (by assumption) _ _ (by assumption) rfl) ?_) | ((with_reducible show wpAny _ _ (Sem.update _ _ _ _) _ _ _); first | (refine Mine.m_update (by assumption) 0 rfl _ rfl rfl ?_; intro _ _) | (refine Mine.m_update (by assumption) 1 rfl _ rfl rfl ?_; intro _ _) | (refine Mine.m_update (by assumption) 2 rfl _ rfl rfl ?_; intro _ _) | (refine Mine.m_update (by assumption) 3 rfl _ rfl rfl ?_; intro _ _)) | (first | ((with_reducible show wpAny _ _ (isSubtype _ _) _ _ _); first | refine wpAny_of_eq (Mine.q_sub_tuple) ?_ | refine wpAny_of_eq (Mine.q_sub_dict) ?_ | refine wpAny_of_eq (Mine.q_sub_type) ?_) | ((with_reducible show wpAny _ _ (typeOf (Value.type _)) _ _ _); first | refine wpAny_of_eq (Mine.q_ty_object) ?_) | ((with_reducible show wpAny _ _ (typeLookup (Value.type _) _) _ _ _); first | refine wpAny_of_eq (Mine.q_dict_iter) ?_ | refine wpAny_of_eq (Mine.q_sn_function) ?_ | refine wpAny_of_eq (Mine.q_sn_str) ?_ | refine wpAny_of_eq (Mine.q_sn_list) ?_ | refine wpAny_of_eq (Mine.q_sn_int) ?_ | refine wpAny_of_eq (Mine.q_sn_tuple) ?_ | refine wpAny_of_eq (Mine.q_sn_none) ?_ | refine wpAny_of_eq (Mine.q_sn_md) ?_) | ((with_reducible show wpAny _ _ (Builtin.extendedBase _) _ _ _); first | refine wpAny_of_eq (Mine.q_ext) ?_) | ((with_reducible show wpAny _ _ (Builtin.mroHook? _) _ _ _); first | refine wpAny_of_eq (Mine.q_hook) ?_) | ((with_reducible show wpAny _ _ (Builtin.Slots.givesWeak _) _ _ _); first | refine wpAny_of_eq (Mine.q_weak) ?_) | ((with_reducible show wpAny _ _ (Builtin.Slots.givesDict _) _ _ _); first | refine wpAny_of_eq (Mine.q_gdict) ?_) | ((with_reducible show wpAny _ _ (Builtin.Slots.varSize _) _ _ _); first | refine wpAny_of_eq (Mine.q_var) ?_) | ((with_reducible show wpAny _ _ (Builtin.Slots.bestBase _) _ _ _); first | refine wpAny_of_eq (Mine.q_best) ?_) | ((with_reducible show wpAny _ _ (Builtin.linearize _ _) _ _ _); first | refine wpAny_of_eq (Mine.q_lin) ?_) | ((with_reducible show wpAny _ _ (Bind.madeBy _) _ _ _); first | refine wpAny_of_eq (Mine.q_made) ?_) | ((with_reducible show wpAny _ _ (Builtin.notOverATurnedClass _) _ _ _); first | refine wpAny_of_eq (Mine.q_turned) ?_) | ((with_reducible show wpAny _ _ (Builtin.noteSubclassOfBuiltin _ _) _ _ _); first | refine wpAny_of_eq (Mine.q_note _) ?_) | ((with_reducible show wpAny _ _ (Builtin.Slots.slotNamesOf _) _ _ _); first | refine wpAny_of_eq (Mine.q_slotNames) ?_) | ((with_reducible show wpAny _ _ (classOwn (Value.type _) _) _ _ _); first | refine wpAny_of_eq (Mine.q_own_new) ?_)) | (with_reducible refine Mine.wpAny_ifF (by kernel_rfl!) ?_) | (with_reducible refine Mine.wpAny_ifT (by kernel_rfl!) ?_) | ((fail_if_success (first | (with_reducible show wpAny _ _ (isSubtype _ _) _ _ _) | (with_reducible show wpAny _ _ (typeOf (Value.type _)) _ _ _) | (with_reducible show wpAny _ _ (typeLookup (Value.type _) _) _ _ _) | (with_reducible show wpAny _ _ (Builtin.extendedBase _) _ _ _) | (with_reducible show wpAny _ _ (Builtin.mroHook? _) _ _ _) | (with_reducible show wpAny _ _ (Builtin.Slots.givesWeak _) _ _ _) | (with_reducible show wpAny _ _ (Builtin.Slots.givesDict _) _ _ _) | (with_reducible show wpAny _ _ (Builtin.Slots.varSize _) _ _ _) | (with_reducible show wpAny _ _ (Builtin.Slots.bestBase _) _ _ _) | (with_reducible show wpAny _ _ (Builtin.linearize _ _) _ _ _) | (with_reducible show wpAny _ _ (Bind.madeBy _) _ _ _) | (with_reducible show wpAny _ _ (Builtin.notOverATurnedClass _) _ _ _) | (with_reducible show wpAny _ _ (Builtin.noteSubclassOfBuiltin _ _) _ _ _) | (with_reducible show wpAny _ _ (Builtin.Slots.slotNamesOf _) _ _ _) | (with_reducible show wpAny _ _ (mroOf (Value.type _)) _ _ _) | (with_reducible show wpAny _ _ (classOwn (Value.type _) _) _ _ _) | (with_reducible show wpAny _ _ (Builtin.Slots.read _ _ _) _ _ _) | (with_reducible show wpAny _ _ (Sem.update _ _ _ _) _ _ _) | (with_reducible show wpAny _ _ (Sem.alloc _ _) _ _ _) | (with_reducible show wpAny _ _ (collect _) _ _ _) | (with_reducible show wpAny _ _ (call _ _ _) _ _ _) | (with_reducible show wpAny _ _ (Builtin.Slots.install _ _ _ _) _ _ _) | (with_reducible show wpAny _ _ (Bind.refreshMaker _) _ _ _))); k_node))
  unfold Builtin.Slots.install
  repeat (first | with_reducible refine Mine.nd_tryCatch ?_ | with_reducible refine wpAny_holding ?_ | k_unfold | (with_reducible refine wpAny_bind ?_; k_fold) | (with_reducible refine nd_bind ?_; k_fold) | with_reducible refine wpAny_holding ?_ | with_reducible refine wpAny_keep ?_ | (with_reducible refine wpAny_onRaise ?_; k_fold) | (with_reducible refine wpAny_tryCatch ?_; k_fold) | (with_reducible refine Mine.nd_tryCatch ?_; k_fold) | (with_reducible refine wpAny_attempt ?_; k_fold) | (with_reducible refine Mine.m_load (by first | exact PySem.W.X.Mem.at (by assumption) 0 _ _ rfl | exact PySem.W.X.Mem.at (by assumption) 1 _ _ rfl | exact PySem.W.X.Mem.at (by assumption) 2 _ _ rfl | exact PySem.W.X.Mem.at (by assumption) 3 _ _ rfl | exact PySem.W.X.Mem.old (by assumption) _ _ (by assumption) rfl) ?_) | ((with_reducible show wpAny _ _ (Sem.update _ _ _ _) _ _ _); first | (refine Mine.m_update (by assumption) 0 rfl _ rfl rfl ?_; intro _ _) | (refine Mine.m_update (by assumption) 1 rfl _ rfl rfl ?_; intro _ _) | (refine Mine.m_update (by assumption) 2 rfl _ rfl rfl ?_; intro _ _) | (refine Mine.m_update (by assumption) 3 rfl _ rfl rfl ?_; intro _ _)) | (first | ((with_reducible show wpAny _ _ (isSubtype _ _) _ _ _); first | refine wpAny_of_eq (Mine.q_sub_tuple) ?_ | refine wpAny_of_eq (Mine.q_sub_dict) ?_ | refine wpAny_of_eq (Mine.q_sub_type) ?_) | ((with_reducible show wpAny _ _ (typeOf (Value.type _)) _ _ _); first | refine wpAny_of_eq (Mine.q_ty_object) ?_) | ((with_reducible show wpAny _ _ (typeLookup (Value.type _) _) _ _ _); first | refine wpAny_of_eq (Mine.q_dict_iter) ?_ | refine wpAny_of_eq (Mine.q_sn_function) ?_ | refine wpAny_of_eq (Mine.q_sn_str) ?_ | refine wpAny_of_eq (Mine.q_sn_list) ?_ | refine wpAny_of_eq (Mine.q_sn_int) ?_ | refine wpAny_of_eq (Mine.q_sn_tuple) ?_ | refine wpAny_of_eq (Mine.q_sn_none) ?_ | refine wpAny_of_eq (Mine.q_sn_md) ?_) | ((with_reducible show wpAny _ _ (Builtin.extendedBase _) _ _ _); first | refine wpAny_of_eq (Mine.q_ext) ?_) | ((with_reducible show wpAny _ _ (Builtin.mroHook? _) _ _ _); first | refine wpAny_of_eq (Mine.q_hook) ?_) | ((with_reducible show wpAny _ _ (Builtin.Slots.givesWeak _) _ _ _); first | refine wpAny_of_eq (Mine.q_weak) ?_) | ((with_reducible show wpAny _ _ (Builtin.Slots.givesDict _) _ _ _); first | refine wpAny_of_eq (Mine.q_gdict) ?_) | ((with_reducible show wpAny _ _ (Builtin.Slots.varSize _) _ _ _); first | refine wpAny_of_eq (Mine.q_var) ?_) | ((with_reducible show wpAny _ _ (Builtin.Slots.bestBase _) _ _ _); first | refine wpAny_of_eq (Mine.q_best) ?_) | ((with_reducible show wpAny _ _ (Builtin.linearize _ _) _ _ _); first | refine wpAny_of_eq (Mine.q_lin) ?_) | ((with_reducible show wpAny _ _ (Bind.madeBy _) _ _ _); first | refine wpAny_of_eq (Mine.q_made) ?_) | ((with_reducible show wpAny _ _ (Builtin.notOverATurnedClass _) _ _ _); first | refine wpAny_of_eq (Mine.q_turned) ?_) | ((with_reducible show wpAny _ _ (Builtin.noteSubclassOfBuiltin _ _) _ _ _); first | refine wpAny_of_eq (Mine.q_note _) ?_) | ((with_reducible show wpAny _ _ (Builtin.Slots.slotNamesOf _) _ _ _); first | refine wpAny_of_eq (Mine.q_slotNames) ?_) | ((with_reducible show wpAny _ _ (classOwn (Value.type _) _) _ _ _); first | refine wpAny_of_eq (Mine.q_own_new) ?_)) | (with_reducible refine Mine.wpAny_ifF (by kernel_rfl!) ?_) | (with_reducible refine Mine.wpAny_ifT (by kernel_rfl!) ?_) | ((fail_if_success (first | (with_reducible show wpAny _ _ (isSubtype _ _) _ _ _) | (with_reducible show wpAny _ _ (typeOf (Value.type _)) _ _ _) | (with_reducible show wpAny _ _ (typeLookup (Value.type _) _) _ _ _) | (with_reducible show wpAny _ _ (Builtin.extendedBase _) _ _ _) | (with_reducible show wpAny _ _ (Builtin.mroHook? _) _ _ _) | (with_reducible show wpAny _ _ (Builtin.Slots.givesWeak _) _ _ _) | (with_reducible show wpAny _ _ (Builtin.Slots.givesDict _) _ _ _) | (with_reducible show wpAny _ _ (Builtin.Slots.varSize _) _ _ _) | (with_reducible show wpAny _ _ (Builtin.Slots.bestBase _) _ _ _) | (with_reducible show wpAny _ _ (Builtin.linearize _ _) _ _ _) | (with_reducible show wpAny _ _ (Bind.madeBy _) _ _ _) | (with_reducible show wpAny _ _ (Builtin.notOverATurnedClass _) _ _ _) | (with_reducible show wpAny _ _ (Builtin.noteSubclassOfBuiltin _ _) _ _ _) | (with_reducible show wpAny _ _ (Builtin.Slots.slotNamesOf _) _ _ _) | (with_reducible show wpAny _ _ (mroOf (Value.type _)) _ _ _) | (with_reducible show wpAny _ _ (classOwn (Value.type _) _) _ _ _) | (with_reducible show wpAny _ _ (Builtin.Slots.read _ _ _) _ _ _) | (with_reducible show wpAny _ _ (Sem.update _ _ _ _) _ _ _) | (with_reducible show wpAny _ _ (Sem.alloc _ _) _ _ _) | (with_reducible show wpAny _ _ (collect _) _ _ _) | (with_reducible show wpAny _ _ (call _ _ _) _ _ _) | (with_reducible show wpAny _ _ (Builtin.Slots.install _ _ _ _) _ _ _) | (with_reducible show wpAny _ _ (Bind.refreshMaker _) _ _ _))); k_node))
  refine m_alloc (by assumption) rfl ?_
  intro md hh4 D4
  repeat (first | with_reducible refine Mine.nd_tryCatch ?_ | with_reducible refine wpAny_holding ?_ | k_unfold | (with_reducible refine wpAny_bind ?_; k_fold) | (with_reducible refine nd_bind ?_; k_fold) | with_reducible refine wpAny_holding ?_ | with_reducible refine wpAny_keep ?_ | (with_reducible refine wpAny_onRaise ?_; k_fold) | (with_reducible refine wpAny_tryCatch ?_; k_fold) | (with_reducible refine Mine.nd_tryCatch ?_; k_fold) | (with_reducible refine wpAny_attempt ?_; k_fold) | (with_reducible refine Mine.m_load (by first | exact PySem.W.X.Mem.at (by assumption) 0 _ _ rfl | exact PySem.W.X.Mem.at (by assumption) 1 _ _ rfl | exact PySem.W.X.Mem.at (by assumption) 2 _ _ rfl | exact PySem.W.X.Mem.at (by assumption) 3 _ _ rfl | exact PySem.W.X.Mem.old (by assumption) _ _ (by assumption) rfl) ?_) | ((with_reducible show wpAny _ _ (Sem.update _ _ _ _) _ _ _); first | (refine Mine.m_update (by assumption) 0 rfl _ rfl rfl ?_; intro _ _) | (refine Mine.m_update (by assumption) 1 rfl _ rfl rfl ?_; intro _ _) | (refine Mine.m_update (by assumption) 2 rfl _ rfl rfl ?_; intro _ _) | (refine Mine.m_update (by assumption) 3 rfl _ rfl rfl ?_; intro _ _)) | (first | ((with_reducible show wpAny _ _ (isSubtype _ _) _ _ _); first | refine wpAny_of_eq (Mine.q_sub_tuple) ?_ | refine wpAny_of_eq (Mine.q_sub_dict) ?_ | refine wpAny_of_eq (Mine.q_sub_type) ?_) | ((with_reducible show wpAny _ _ (typeOf (Value.type _)) _ _ _); first | refine wpAny_of_eq (Mine.q_ty_object) ?_) | ((with_reducible show wpAny _ _ (typeLookup (Value.type _) _) _ _ _); first | refine wpAny_of_eq (Mine.q_dict_iter) ?_ | refine wpAny_of_eq (Mine.q_sn_function) ?_ | refine wpAny_of_eq (Mine.q_sn_str) ?_ | refine wpAny_of_eq (Mine.q_sn_list) ?_ | refine wpAny_of_eq (Mine.q_sn_int) ?_ | refine wpAny_of_eq (Mine.q_sn_tuple) ?_ | refine wpAny_of_eq (Mine.q_sn_none) ?_ | refine wpAny_of_eq (Mine.q_sn_md) ?_) | ((with_reducible show wpAny _ _ (Builtin.extendedBase _) _ _ _); first | refine wpAny_of_eq (Mine.q_ext) ?_) | ((with_reducible show wpAny _ _ (Builtin.mroHook? _) _ _ _); first | refine wpAny_of_eq (Mine.q_hook) ?_) | ((with_reducible show wpAny _ _ (Builtin.Slots.givesWeak _) _ _ _); first | refine wpAny_of_eq (Mine.q_weak) ?_) | ((with_reducible show wpAny _ _ (Builtin.Slots.givesDict _) _ _ _); first | refine wpAny_of_eq (Mine.q_gdict) ?_) | ((with_reducible show wpAny _ _ (Builtin.Slots.varSize _) _ _ _); first | refine wpAny_of_eq (Mine.q_var) ?_) | ((with_reducible show wpAny _ _ (Builtin.Slots.bestBase _) _ _ _); first | refine wpAny_of_eq (Mine.q_best) ?_) | ((with_reducible show wpAny _ _ (Builtin.linearize _ _) _ _ _); first | refine wpAny_of_eq (Mine.q_lin) ?_) | ((with_reducible show wpAny _ _ (Bind.madeBy _) _ _ _); first | refine wpAny_of_eq (Mine.q_made) ?_) | ((with_reducible show wpAny _ _ (Builtin.notOverATurnedClass _) _ _ _); first | refine wpAny_of_eq (Mine.q_turned) ?_) | ((with_reducible show wpAny _ _ (Builtin.noteSubclassOfBuiltin _ _) _ _ _); first | refine wpAny_of_eq (Mine.q_note _) ?_) | ((with_reducible show wpAny _ _ (Builtin.Slots.slotNamesOf _) _ _ _); first | refine wpAny_of_eq (Mine.q_slotNames) ?_) | ((with_reducible show wpAny _ _ (classOwn (Value.type _) _) _ _ _); first | refine wpAny_of_eq (Mine.q_own_new) ?_)) | (with_reducible refine Mine.wpAny_ifF (by kernel_rfl!) ?_) | (with_reducible refine Mine.wpAny_ifT (by kernel_rfl!) ?_) | ((fail_if_success (first | (with_reducible show wpAny _ _ (isSubtype _ _) _ _ _) | (with_reducible show wpAny _ _ (typeOf (Value.type _)) _ _ _) | (with_reducible show wpAny _ _ (typeLookup (Value.type _) _) _ _ _) | (with_reducible show wpAny _ _ (Builtin.extendedBase _) _ _ _) | (with_reducible show wpAny _ _ (Builtin.mroHook? _) _ _ _) | (with_reducible show wpAny _ _ (Builtin.Slots.givesWeak _) _ _ _) | (with_reducible show wpAny _ _ (Builtin.Slots.givesDict _) _ _ _) | (with_reducible show wpAny _ _ (Builtin.Slots.varSize _) _ _ _) | (with_reducible show wpAny _ _ (Builtin.Slots.bestBase _) _ _ _) | (with_reducible show wpAny _ _ (Builtin.linearize _ _) _ _ _) | (with_reducible show wpAny _ _ (Bind.madeBy _) _ _ _) | (with_reducible show wpAny _ _ (Builtin.notOverATurnedClass _) _ _ _) | (with_reducible show wpAny _ _ (Builtin.noteSubclassOfBuiltin _ _) _ _ _) | (with_reducible show wpAny _ _ (Builtin.Slots.slotNamesOf _) _ _ _) | (with_reducible show wpAny _ _ (mroOf (Value.type _)) _ _ _) | (with_reducible show wpAny _ _ (classOwn (Value.type _) _) _ _ _) | (with_reducible show wpAny _ _ (Builtin.Slots.read _ _ _) _ _ _) | (with_reducible show wpAny _ _ (Sem.update _ _ _ _) _ _ _) | (with_reducible show wpAny _ _ (Sem.alloc _ _) _ _ _) | (with_reducible show wpAny _ _ (collect _) _ _ _) | (with_reducible show wpAny _ _ (call _ _ _) _ _ _) | (with_reducible show wpAny _ _ (Builtin.Slots.install _ _ _ _) _ _ _) | (with_reducible show wpAny _ _ (Bind.refreshMaker _) _ _ _))); k_node))
  rename Mem h _ [] _ => D5
  rename Heap => HH
  have eC := D5.nw (C, clsK C ns bt tN (u 2)) (List.mem_of_getElem? (i := 1) (by kernel_rfl!))
  have eM := D5.nw (md, { cls := .type "member_descriptor", data := .fields #[.str "obj" t, .ref C, .builtin "proto.slot", .builtin "proto.slot#set", rawInt 0] }) (List.mem_of_getElem? (i := 0) (by kernel_rfl!))
  have eN : ∃ n t1 t2, HH.get? ns = some (dictOf (entB w e k u sl sa f md t1 t2) n) ∧ h.get? ns = none := by
    first
    | exact ⟨0, t + 1, t + 1 + 1, D5.nw (ns, dictOf (entB w e k u sl sa f md (t + 1) (t + 1 + 1)) 0) (List.mem_of_getElem? (i := 2) (by kernel_rfl!))⟩
    | exact ⟨1, t + 1, t + 1 + 1, D5.nw (ns, dictOf (entB w e k u sl sa f md (t + 1) (t + 1 + 1)) 1) (List.mem_of_getElem? (i := 2) (by kernel_rfl!))⟩
    | exact ⟨2, t + 1, t + 1 + 1, D5.nw (ns, dictOf (entB w e k u sl sa f md (t + 1) (t + 1 + 1)) 2) (List.mem_of_getElem? (i := 2) (by kernel_rfl!))⟩
    | exact ⟨3, t + 1, t + 1 + 1, D5.nw (ns, dictOf (entB w e k u sl sa f md (t + 1) (t + 1 + 1)) 3) (List.mem_of_getElem? (i := 2) (by kernel_rfl!))⟩
  obtain ⟨nn, t1, t2, eN, fN⟩ := eN
  refine hooksEnd (C := C) (ns := ns) (bt := bt) (tN := tN) (tQ := u 2) r (fun a o z => D5.keep a o (KX a o z) (by simp [away])) eC.1 ?_
  intro h9 t9 k9
  show wpAny _ _ _ _ _ _
  repeat (first | with_reducible refine Mine.nd_tryCatch ?_ | with_reducible refine wpAny_holding ?_ | k_unfold | (with_reducible refine wpAny_bind ?_; k_fold) | (with_reducible refine nd_bind ?_; k_fold) | with_reducible refine wpAny_holding ?_ | with_reducible refine wpAny_keep ?_ | (with_reducible refine wpAny_onRaise ?_; k_fold) | (with_reducible refine wpAny_tryCatch ?_; k_fold) | (with_reducible refine Mine.nd_tryCatch ?_; k_fold) | (with_reducible refine wpAny_attempt ?_; k_fold) | (with_reducible refine Mine.m_load (by first | exact PySem.W.X.Mem.at (by assumption) 0 _ _ rfl | exact PySem.W.X.Mem.at (by assumption) 1 _ _ rfl | exact PySem.W.X.Mem.at (by assumption) 2 _ _ rfl | exact PySem.W.X.Mem.at (by assumption) 3 _ _ rfl | exact PySem.W.X.Mem.old (by assumption) _ _ (by assumption) rfl) ?_) | ((with_reducible show wpAny _ _ (Sem.update _ _ _ _) _ _ _); first | (refine Mine.m_update (by assumption) 0 rfl _ rfl rfl ?_; intro _ _) | (refine Mine.m_update (by assumption) 1 rfl _ rfl rfl ?_; intro _ _) | (refine Mine.m_update (by assumption) 2 rfl _ rfl rfl ?_; intro _ _) | (refine Mine.m_update (by assumption) 3 rfl _ rfl rfl ?_; intro _ _)) | (first | ((with_reducible show wpAny _ _ (isSubtype _ _) _ _ _); first | refine wpAny_of_eq (Mine.q_sub_tuple) ?_ | refine wpAny_of_eq (Mine.q_sub_dict) ?_ | refine wpAny_of_eq (Mine.q_sub_type) ?_) | ((with_reducible show wpAny _ _ (typeOf (Value.type _)) _ _ _); first | refine wpAny_of_eq (Mine.q_ty_object) ?_) | ((with_reducible show wpAny _ _ (typeLookup (Value.type _) _) _ _ _); first | refine wpAny_of_eq (Mine.q_dict_iter) ?_ | refine wpAny_of_eq (Mine.q_sn_function) ?_ | refine wpAny_of_eq (Mine.q_sn_str) ?_ | refine wpAny_of_eq (Mine.q_sn_list) ?_ | refine wpAny_of_eq (Mine.q_sn_int) ?_ | refine wpAny_of_eq (Mine.q_sn_tuple) ?_ | refine wpAny_of_eq (Mine.q_sn_none) ?_ | refine wpAny_of_eq (Mine.q_sn_md) ?_) | ((with_reducible show wpAny _ _ (Builtin.extendedBase _) _ _ _); first | refine wpAny_of_eq (Mine.q_ext) ?_) | ((with_reducible show wpAny _ _ (Builtin.mroHook? _) _ _ _); first | refine wpAny_of_eq (Mine.q_hook) ?_) | ((with_reducible show wpAny _ _ (Builtin.Slots.givesWeak _) _ _ _); first | refine wpAny_of_eq (Mine.q_weak) ?_) | ((with_reducible show wpAny _ _ (Builtin.Slots.givesDict _) _ _ _); first | refine wpAny_of_eq (Mine.q_gdict) ?_) | ((with_reducible show wpAny _ _ (Builtin.Slots.varSize _) _ _ _); first | refine wpAny_of_eq (Mine.q_var) ?_) | ((with_reducible show wpAny _ _ (Builtin.Slots.bestBase _) _ _ _); first | refine wpAny_of_eq (Mine.q_best) ?_) | ((with_reducible show wpAny _ _ (Builtin.linearize _ _) _ _ _); first | refine wpAny_of_eq (Mine.q_lin) ?_) | ((with_reducible show wpAny _ _ (Bind.madeBy _) _ _ _); first | refine wpAny_of_eq (Mine.q_made) ?_) | ((with_reducible show wpAny _ _ (Builtin.notOverATurnedClass _) _ _ _); first | refine wpAny_of_eq (Mine.q_turned) ?_) | ((with_reducible show wpAny _ _ (Builtin.noteSubclassOfBuiltin _ _) _ _ _); first | refine wpAny_of_eq (Mine.q_note _) ?_) | ((with_reducible show wpAny _ _ (Builtin.Slots.slotNamesOf _) _ _ _); first | refine wpAny_of_eq (Mine.q_slotNames) ?_) | ((with_reducible show wpAny _ _ (classOwn (Value.type _) _) _ _ _); first | refine wpAny_of_eq (Mine.q_own_new) ?_)) | (with_reducible refine Mine.wpAny_ifF (by kernel_rfl!) ?_) | (with_reducible refine Mine.wpAny_ifT (by kernel_rfl!) ?_) | ((fail_if_success (first | (with_reducible show wpAny _ _ (isSubtype _ _) _ _ _) | (with_reducible show wpAny _ _ (typeOf (Value.type _)) _ _ _) | (with_reducible show wpAny _ _ (typeLookup (Value.type _) _) _ _ _) | (with_reducible show wpAny _ _ (Builtin.extendedBase _) _ _ _) | (with_reducible show wpAny _ _ (Builtin.mroHook? _) _ _ _) | (with_reducible show wpAny _ _ (Builtin.Slots.givesWeak _) _ _ _) | (with_reducible show wpAny _ _ (Builtin.Slots.givesDict _) _ _ _) | (with_reducible show wpAny _ _ (Builtin.Slots.varSize _) _ _ _) | (with_reducible show wpAny _ _ (Builtin.Slots.bestBase _) _ _ _) | (with_reducible show wpAny _ _ (Builtin.linearize _ _) _ _ _) | (with_reducible show wpAny _ _ (Bind.madeBy _) _ _ _) | (with_reducible show wpAny _ _ (Builtin.notOverATurnedClass _) _ _ _) | (with_reducible show wpAny _ _ (Builtin.noteSubclassOfBuiltin _ _) _ _ _) | (with_reducible show wpAny _ _ (Builtin.Slots.slotNamesOf _) _ _ _) | (with_reducible show wpAny _ _ (mroOf (Value.type _)) _ _ _) | (with_reducible show wpAny _ _ (classOwn (Value.type _) _) _ _ _) | (with_reducible show wpAny _ _ (Builtin.Slots.read _ _ _) _ _ _) | (with_reducible show wpAny _ _ (Sem.update _ _ _ _) _ _ _) | (with_reducible show wpAny _ _ (Sem.alloc _ _) _ _ _) | (with_reducible show wpAny _ _ (collect _) _ _ _) | (with_reducible show wpAny _ _ (call _ _ _) _ _ _) | (with_reducible show wpAny _ _ (Builtin.Slots.install _ _ _ _) _ _ _) | (with_reducible show wpAny _ _ (Bind.refreshMaker _) _ _ _))); k_node))
  exact hq C ns md nn t1 t2 h9 t9 (fun b o z => k9 _ _ (D5.keep b o z (by simp [away]))) eC.2 fN eM.2 (k9 _ _ eC.1) (k9 _ _ eN) (k9 _ _ eM.1)
end
end Mine

-- part LTypeC
set_option maxRecDepth 100000
set_option maxHeartbeats 0
set_option pp.deepTerms false
set_option pp.maxSteps 3000
namespace Mine
open PySem PySem.W PySem.W.X PyProof.Rows PySem.Calls
section
variable {prog : Program} {w : World} {A : Around} {E : Value → Shared → Prop}
theorem ini_end {s : Shared} {h : Heap} {t : Nat} {news : List (Addr × Obj)} (D : Mem s.heap h [] news) :
    Value.none = Value.none ∧ ∃ h' tk, (⟨h, s.gens, s.drawn, t, s.os⟩ : Shared) = { s with heap := h', toks := tk } ∧ (∀ b o, s.heap.get? b = some o → h'.get? b = some o) :=
  ⟨rfl, h, t, rfl, fun _ _ e => D.keep _ _ e (by simp [away])⟩
local macro_rules | `(tactic| x_close) => `(tactic| first | exact ini_end (by assumption) | exact ⟨rfl, _, _, rfl, fun _ _ e => e⟩)
theorem initK {s : Shared} {C ns bt nsA : Addr} {tN tQ : Tok} (r : Room A 10) (hC : s.heap.get? C = some (clsK C ns bt tN tQ)) :
    wpAny (model prog w) A (call (.builtin "type.__init__") [.ref C, .str "K" tN, .ref bt, .ref nsA]) (fun v s' => v = .none ∧ ∃ h' tk, s' = { s with heap := h', toks := tk } ∧ (∀ b o, s.heap.get? b = some o → h'.get? b = some o)) NoE s := by
  delta clsK at hC
  refine wpAny_up (d := 890) (u := 8900) r (by decide) (by decide) ?_
  x_run
end
section
variable {prog : Program} {w : World} {A : Around} {E : Value → Shared → Prop} {s : Shared} {I : Kn}

theorem instK {h : Heap} {g : Array GenState} {d : Drawn} {t : Nat} {os : OsState} {C ns bt : Addr} {tN tQ : Tok} {Q : Bool → Shared → Prop} (hC : h.get? C = some (clsK C ns bt tN tQ)) (hq : Q true ⟨h, g, d, t, os⟩) :
    wpAny (model prog w) A (isInstance (.ref C) (.type "type")) Q E ⟨h, g, d, t, os⟩ := by
  have D := Mem.start h
  repeat (first | with_reducible refine Mine.nd_tryCatch ?_ | with_reducible refine wpAny_holding ?_ | k_unfold | (with_reducible refine wpAny_bind ?_; k_fold) | (with_reducible refine nd_bind ?_; k_fold) | with_reducible refine wpAny_holding ?_ | with_reducible refine wpAny_keep ?_ | (with_reducible refine wpAny_onRaise ?_; k_fold) | (with_reducible refine wpAny_tryCatch ?_; k_fold) | (with_reducible refine Mine.nd_tryCatch ?_; k_fold) | (with_reducible refine wpAny_attempt ?_; k_fold) | (with_reducible refine Mine.m_load (by first | exact PySem.W.X.Mem.at (by assumption) 0 _ _ rfl | exact PySem.W.X.Mem.at (by assumption) 1 _ _ rfl | exact PySem.W.X.Mem.at (by assumption) 2 _ _ rfl | exact PySem.W.X.Mem.at (by assumption) 3 _ _ rfl | exact PySem.W.X.Mem.old (by assumption) _ _ (by assumption) rfl) ?_) | ((with_reducible show wpAny _ _ (Sem.update _ _ _ _) _ _ _); first | (refine Mine.m_update (by assumption) 0 rfl _ rfl rfl ?_; intro _ _) | (refine Mine.m_update (by assumption) 1 rfl _ rfl rfl ?_; intro _ _) | (refine Mine.m_update (by assumption) 2 rfl _ rfl rfl ?_; intro _ _) | (refine Mine.m_update (by assumption) 3 rfl _ rfl rfl ?_; intro _ _)) | (first | ((with_reducible show wpAny _ _ (isSubtype _ _) _ _ _); first | refine wpAny_of_eq (Mine.q_sub_tuple) ?_ | refine wpAny_of_eq (Mine.q_sub_dict) ?_ | refine wpAny_of_eq (Mine.q_sub_type) ?_) | ((with_reducible show wpAny _ _ (typeOf (Value.type _)) _ _ _); first | refine wpAny_of_eq (Mine.q_ty_object) ?_) | ((with_reducible show wpAny _ _ (typeLookup (Value.type _) _) _ _ _); first | refine wpAny_of_eq (Mine.q_dict_iter) ?_ | refine wpAny_of_eq (Mine.q_sn_function) ?_ | refine wpAny_of_eq (Mine.q_sn_str) ?_ | refine wpAny_of_eq (Mine.q_sn_list) ?_ | refine wpAny_of_eq (Mine.q_sn_int) ?_ | refine wpAny_of_eq (Mine.q_sn_tuple) ?_ | refine wpAny_of_eq (Mine.q_sn_none) ?_ | refine wpAny_of_eq (Mine.q_sn_md) ?_) | ((with_reducible show wpAny _ _ (Builtin.extendedBase _) _ _ _); first | refine wpAny_of_eq (Mine.q_ext) ?_) | ((with_reducible show wpAny _ _ (Builtin.mroHook? _) _ _ _); first | refine wpAny_of_eq (Mine.q_hook) ?_) | ((with_reducible show wpAny _ _ (Builtin.Slots.givesWeak _) _ _ _); first | refine wpAny_of_eq (Mine.q_weak) ?_) | ((with_reducible show wpAny _ _ (Builtin.Slots.givesDict _) _ _ _); first | refine wpAny_of_eq (Mine.q_gdict) ?_) | ((with_reducible show wpAny _ _ (Builtin.Slots.varSize _) _ _ _); first | refine wpAny_of_eq (Mine.q_var) ?_) | ((with_reducible show wpAny _ _ (Builtin.Slots.bestBase _) _ _ _); first | refine wpAny_of_eq (Mine.q_best) ?_) | ((with_reducible show wpAny _ _ (Builtin.linearize _ _) _ _ _); first | refine wpAny_of_eq (Mine.q_lin) ?_) | ((with_reducible show wpAny _ _ (Bind.madeBy _) _ _ _); first | refine wpAny_of_eq (Mine.q_made) ?_) | ((with_reducible show wpAny _ _ (Builtin.notOverATurnedClass _) _ _ _); first | refine wpAny_of_eq (Mine.q_turned) ?_) | ((with_reducible show wpAny _ _ (Builtin.noteSubclassOfBuiltin _ _) _ _ _); first | refine wpAny_of_eq (Mine.q_note _) ?_) | ((with_reducible show wpAny _ _ (Builtin.Slots.slotNamesOf _) _ _ _); first | refine wpAny_of_eq (Mine.q_slotNames) ?_) | ((with_reducible show wpAny _ _ (classOwn (Value.type _) _) _ _ _); first | refine wpAny_of_eq (Mine.q_own_new) ?_)) | (with_reducible refine Mine.wpAny_ifF (by kernel_rfl!) ?_) | (with_reducible refine Mine.wpAny_ifT (by kernel_rfl!) ?_) | ((fail_if_success (first | (with_reducible show wpAny _ _ (isSubtype _ _) _ _ _) | (with_reducible show wpAny _ _ (typeOf (Value.type _)) _ _ _) | (with_reducible show wpAny _ _ (typeLookup (Value.type _) _) _ _ _) | (with_reducible show wpAny _ _ (Builtin.extendedBase _) _ _ _) | (with_reducible show wpAny _ _ (Builtin.mroHook? _) _ _ _) | (with_reducible show wpAny _ _ (Builtin.Slots.givesWeak _) _ _ _) | (with_reducible show wpAny _ _ (Builtin.Slots.givesDict _) _ _ _) | (with_reducible show wpAny _ _ (Builtin.Slots.varSize _) _ _ _) | (with_reducible show wpAny _ _ (Builtin.Slots.bestBase _) _ _ _) | (with_reducible show wpAny _ _ (Builtin.linearize _ _) _ _ _) | (with_reducible show wpAny _ _ (Bind.madeBy _) _ _ _) | (with_reducible show wpAny _ _ (Builtin.notOverATurnedClass _) _ _ _) | (with_reducible show wpAny _ _ (Builtin.noteSubclassOfBuiltin _ _) _ _ _) | (with_reducible show wpAny _ _ (Builtin.Slots.slotNamesOf _) _ _ _) | (with_reducible show wpAny _ _ (mroOf (Value.type _)) _ _ _) | (with_reducible show wpAny _ _ (classOwn (Value.type _) _) _ _ _) | (with_reducible show wpAny _ _ (Builtin.Slots.read _ _ _) _ _ _) | (with_reducible show wpAny _ _ (Sem.update _ _ _ _) _ _ _) | (with_reducible show wpAny _ _ (Sem.alloc _ _) _ _ _) | (with_reducible show wpAny _ _ (collect _) _ _ _) | (with_reducible show wpAny _ _ (call _ _ _) _ _ _) | (with_reducible show wpAny _ _ (Builtin.Slots.install _ _ _ _) _ _ _) | (with_reducible show wpAny _ _ (Bind.refreshMaker _) _ _ _))); k_node))
  all_goals first | exact hq | trace_state
theorem slotInit : typeLookup (.type "type") "__init__" = pure (some (.builtin "type.__init__")) := by kernel_rfl!
theorem initSp {h : Heap} {g : Array GenState} {d : Drawn} {t : Nat} {os : OsState} {C ns bt nsA : Addr} {tN tQ : Tok} {Q : Option Value → Shared → Prop} (r : Room A 10) (hC : h.get? C = some (clsK C ns bt tN tQ))
    (hq : ∀ h' tk, (∀ b o, h.get? b = some o → h'.get? b = some o) → Q (some .none) ⟨h', g, d, tk, os⟩) :
    wpAny (model prog w) A (callSpecial? (.ref C) "__init__" [.str "K" tN, .ref bt, .ref nsA] []) Q E ⟨h, g, d, t, os⟩ := by
  have D := Mem.start h
  unfold callSpecial?
  repeat (first | with_reducible refine Mine.nd_tryCatch ?_ | with_reducible refine wpAny_holding ?_ | k_unfold | (with_reducible refine wpAny_bind ?_; k_fold) | (with_reducible refine nd_bind ?_; k_fold) | with_reducible refine wpAny_holding ?_ | with_reducible refine wpAny_keep ?_ | (with_reducible refine wpAny_onRaise ?_; k_fold) | (with_reducible refine wpAny_tryCatch ?_; k_fold) | (with_reducible refine Mine.nd_tryCatch ?_; k_fold) | (with_reducible refine wpAny_attempt ?_; k_fold) | (with_reducible refine Mine.m_load (by first | exact PySem.W.X.Mem.at (by assumption) 0 _ _ rfl | exact PySem.W.X.Mem.at (by assumption) 1 _ _ rfl | exact PySem.W.X.Mem.at (by assumption) 2 _ _ rfl | exact PySem.W.X.Mem.at (by assumption) 3 _ _ rfl | exact PySem.W.X.Mem.old (by assumption) _ _ (by assumption) rfl) ?_) | ((with_reducible show wpAny _ _ (Sem.update _ _ _ _) _ _ _); first | (refine Mine.m_update (by assumption) 0 rfl _ rfl rfl ?_; intro _ _) | (refine Mine.m_update (by assumption) 1 rfl _ rfl rfl ?_; intro _ _) | (refine Mine.m_update (by assumption) 2 rfl _ rfl rfl ?_; intro _ _) | (refine Mine.m_update (by assumption) 3 rfl _ rfl rfl ?_; intro _ _)) | (first | ((with_reducible show wpAny _ _ (isSubtype _ _) _ _ _); first | refine wpAny_of_eq (Mine.q_sub_tuple) ?_ | refine wpAny_of_eq (Mine.q_sub_dict) ?_ | refine wpAny_of_eq (Mine.q_sub_type) ?_) | ((with_reducible show wpAny _ _ (typeOf (Value.type _)) _ _ _); first | refine wpAny_of_eq (Mine.q_ty_object) ?_) | ((with_reducible show wpAny _ _ (typeLookup (Value.type _) _) _ _ _); first | refine wpAny_of_eq (Mine.q_dict_iter) ?_ | refine wpAny_of_eq (Mine.q_sn_function) ?_ | refine wpAny_of_eq (Mine.q_sn_str) ?_ | refine wpAny_of_eq (Mine.q_sn_list) ?_ | refine wpAny_of_eq (Mine.q_sn_int) ?_ | refine wpAny_of_eq (Mine.q_sn_tuple) ?_ | refine wpAny_of_eq (Mine.q_sn_none) ?_ | refine wpAny_of_eq (Mine.q_sn_md) ?_) | ((with_reducible show wpAny _ _ (Builtin.extendedBase _) _ _ _); first | refine wpAny_of_eq (Mine.q_ext) ?_) | ((with_reducible show wpAny _ _ (Builtin.mroHook? _) _ _ _); first | refine wpAny_of_eq (Mine.q_hook) ?_) | ((with_reducible show wpAny _ _ (Builtin.Slots.givesWeak _) _ _ _); first | refine wpAny_of_eq (Mine.q_weak) ?_) | ((with_reducible show wpAny _ _ (Builtin.Slots.givesDict _) _ _ _); first | refine wpAny_of_eq (Mine.q_gdict) ?_) | ((with_reducible show wpAny _ _ (Builtin.Slots.varSize _) _ _ _); first | refine wpAny_of_eq (Mine.q_var) ?_) | ((with_reducible show wpAny _ _ (Builtin.Slots.bestBase _) _ _ _); first | refine wpAny_of_eq (Mine.q_best) ?_) | ((with_reducible show wpAny _ _ (Builtin.linearize _ _) _ _ _); first | refine wpAny_of_eq (Mine.q_lin) ?_) | ((with_reducible show wpAny _ _ (Bind.madeBy _) _ _ _); first | refine wpAny_of_eq (Mine.q_made) ?_) | ((with_reducible show wpAny _ _ (Builtin.notOverATurnedClass _) _ _ _); first | refine wpAny_of_eq (Mine.q_turned) ?_) | ((with_reducible show wpAny _ _ (Builtin.noteSubclassOfBuiltin _ _) _ _ _); first | refine wpAny_of_eq (Mine.q_note _) ?_) | ((with_reducible show wpAny _ _ (Builtin.Slots.slotNamesOf _) _ _ _); first | refine wpAny_of_eq (Mine.q_slotNames) ?_) | ((with_reducible show wpAny _ _ (classOwn (Value.type _) _) _ _ _); first | refine wpAny_of_eq (Mine.q_own_new) ?_)) | (with_reducible refine Mine.wpAny_ifF (by kernel_rfl!) ?_) | (with_reducible refine Mine.wpAny_ifT (by kernel_rfl!) ?_) | ((fail_if_success (first | (with_reducible show wpAny _ _ (isSubtype _ _) _ _ _) | (with_reducible show wpAny _ _ (typeOf (Value.type _)) _ _ _) | (with_reducible show wpAny _ _ (typeLookup (Value.type _) _) _ _ _) | (with_reducible show wpAny _ _ (Builtin.extendedBase _) _ _ _) | (with_reducible show wpAny _ _ (Builtin.mroHook? _) _ _ _) | (with_reducible show wpAny _ _ (Builtin.Slots.givesWeak _) _ _ _) | (with_reducible show wpAny _ _ (Builtin.Slots.givesDict _) _ _ _) | (with_reducible show wpAny _ _ (Builtin.Slots.varSize _) _ _ _) | (with_reducible show wpAny _ _ (Builtin.Slots.bestBase _) _ _ _) | (with_reducible show wpAny _ _ (Builtin.linearize _ _) _ _ _) | (with_reducible show wpAny _ _ (Bind.madeBy _) _ _ _) | (with_reducible show wpAny _ _ (Builtin.notOverATurnedClass _) _ _ _) | (with_reducible show wpAny _ _ (Builtin.noteSubclassOfBuiltin _ _) _ _ _) | (with_reducible show wpAny _ _ (Builtin.Slots.slotNamesOf _) _ _ _) | (with_reducible show wpAny _ _ (mroOf (Value.type _)) _ _ _) | (with_reducible show wpAny _ _ (classOwn (Value.type _) _) _ _ _) | (with_reducible show wpAny _ _ (Builtin.Slots.read _ _ _) _ _ _) | (with_reducible show wpAny _ _ (Sem.update _ _ _ _) _ _ _) | (with_reducible show wpAny _ _ (Sem.alloc _ _) _ _ _) | (with_reducible show wpAny _ _ (collect _) _ _ _) | (with_reducible show wpAny _ _ (call _ _ _) _ _ _) | (with_reducible show wpAny _ _ (Builtin.Slots.install _ _ _ _) _ _ _) | (with_reducible show wpAny _ _ (Bind.refreshMaker _) _ _ _))); k_node))
  refine wpAny_of_eq slotInit ?_
  repeat (first | with_reducible refine Mine.nd_tryCatch ?_ | with_reducible refine wpAny_holding ?_ | k_unfold | (with_reducible refine wpAny_bind ?_; k_fold) | (with_reducible refine nd_bind ?_; k_fold) | with_reducible refine wpAny_holding ?_ | with_reducible refine wpAny_keep ?_ | (with_reducible refine wpAny_onRaise ?_; k_fold) | (with_reducible refine wpAny_tryCatch ?_; k_fold) | (with_reducible refine Mine.nd_tryCatch ?_; k_fold) | (with_reducible refine wpAny_attempt ?_; k_fold) | (with_reducible refine Mine.m_load (by first | exact PySem.W.X.Mem.at (by assumption) 0 _ _ rfl | exact PySem.W.X.Mem.at (by assumption) 1 _ _ rfl | exact PySem.W.X.Mem.at (by assumption) 2 _ _ rfl | exact PySem.W.X.Mem.at (by assumption) 3 _ _ rfl | exact PySem.W.X.Mem.old (by assumption) _ _ (by assumption) rfl) ?_) | ((with_reducible show wpAny _ _ (Sem.update _ _ _ _) _ _ _); first | (refine Mine.m_update (by assumption) 0 rfl _ rfl rfl ?_; intro _ _) | (refine Mine.m_update (by assumption) 1 rfl _ rfl rfl ?_; intro _ _) | (refine Mine.m_update (by assumption) 2 rfl _ rfl rfl ?_; intro _ _) | (refine Mine.m_update (by assumption) 3 rfl _ rfl rfl ?_; intro _ _)) | (first | ((with_reducible show wpAny _ _ (isSubtype _ _) _ _ _); first | refine wpAny_of_eq (Mine.q_sub_tuple) ?_ | refine wpAny_of_eq (Mine.q_sub_dict) ?_ | refine wpAny_of_eq (Mine.q_sub_type) ?_) | ((with_reducible show wpAny _ _ (typeOf (Value.type _)) _ _ _); first | refine wpAny_of_eq (Mine.q_ty_object) ?_) | ((with_reducible show wpAny _ _ (typeLookup (Value.type _) _) _ _ _); first | refine wpAny_of_eq (Mine.q_dict_iter) ?_ | refine wpAny_of_eq (Mine.q_sn_function) ?_ | refine wpAny_of_eq (Mine.q_sn_str) ?_ | refine wpAny_of_eq (Mine.q_sn_list) ?_ | refine wpAny_of_eq (Mine.q_sn_int) ?_ | refine wpAny_of_eq (Mine.q_sn_tuple) ?_ | refine wpAny_of_eq (Mine.q_sn_none) ?_ | refine wpAny_of_eq (Mine.q_sn_md) ?_) | ((with_reducible show wpAny _ _ (Builtin.extendedBase _) _ _ _); first | refine wpAny_of_eq (Mine.q_ext) ?_) | ((with_reducible show wpAny _ _ (Builtin.mroHook? _) _ _ _); first | refine wpAny_of_eq (Mine.q_hook) ?_) | ((with_reducible show wpAny _ _ (Builtin.Slots.givesWeak _) _ _ _); first | refine wpAny_of_eq (Mine.q_weak) ?_) | ((with_reducible show wpAny _ _ (Builtin.Slots.givesDict _) _ _ _); first | refine wpAny_of_eq (Mine.q_gdict) ?_) | ((with_reducible show wpAny _ _ (Builtin.Slots.varSize _) _ _ _); first | refine wpAny_of_eq (Mine.q_var) ?_) | ((with_reducible show wpAny _ _ (Builtin.Slots.bestBase _) _ _ _); first | refine wpAny_of_eq (Mine.q_best) ?_) | ((with_reducible show wpAny _ _ (Builtin.linearize _ _) _ _ _); first | refine wpAny_of_eq (Mine.q_lin) ?_) | ((with_reducible show wpAny _ _ (Bind.madeBy _) _ _ _); first | refine wpAny_of_eq (Mine.q_made) ?_) | ((with_reducible show wpAny _ _ (Builtin.notOverATurnedClass _) _ _ _); first | refine wpAny_of_eq (Mine.q_turned) ?_) | ((with_reducible show wpAny _ _ (Builtin.noteSubclassOfBuiltin _ _) _ _ _); first | refine wpAny_of_eq (Mine.q_note _) ?_) | ((with_reducible show wpAny _ _ (Builtin.Slots.slotNamesOf _) _ _ _); first | refine wpAny_of_eq (Mine.q_slotNames) ?_) | ((with_reducible show wpAny _ _ (classOwn (Value.type _) _) _ _ _); first | refine wpAny_of_eq (Mine.q_own_new) ?_)) | (with_reducible refine Mine.wpAny_ifF (by kernel_rfl!) ?_) | (with_reducible refine Mine.wpAny_ifT (by kernel_rfl!) ?_) | ((fail_if_success (first | (with_reducible show wpAny _ _ (isSubtype _ _) _ _ _) | (with_reducible show wpAny _ _ (typeOf (Value.type _)) _ _ _) | (with_reducible show wpAny _ _ (typeLookup (Value.type _) _) _ _ _) | (with_reducible show wpAny _ _ (Builtin.extendedBase _) _ _ _) | (with_reducible show wpAny _ _ (Builtin.mroHook? _) _ _ _) | (with_reducible show wpAny _ _ (Builtin.Slots.givesWeak _) _ _ _) | (with_reducible show wpAny _ _ (Builtin.Slots.givesDict _) _ _ _) | (with_reducible show wpAny _ _ (Builtin.Slots.varSize _) _ _ _) | (with_reducible show wpAny _ _ (Builtin.Slots.bestBase _) _ _ _) | (with_reducible show wpAny _ _ (Builtin.linearize _ _) _ _ _) | (with_reducible show wpAny _ _ (Bind.madeBy _) _ _ _) | (with_reducible show wpAny _ _ (Builtin.notOverATurnedClass _) _ _ _) | (with_reducible show wpAny _ _ (Builtin.noteSubclassOfBuiltin _ _) _ _ _) | (with_reducible show wpAny _ _ (Builtin.Slots.slotNamesOf _) _ _ _) | (with_reducible show wpAny _ _ (mroOf (Value.type _)) _ _ _) | (with_reducible show wpAny _ _ (classOwn (Value.type _) _) _ _ _) | (with_reducible show wpAny _ _ (Builtin.Slots.read _ _ _) _ _ _) | (with_reducible show wpAny _ _ (Sem.update _ _ _ _) _ _ _) | (with_reducible show wpAny _ _ (Sem.alloc _ _) _ _ _) | (with_reducible show wpAny _ _ (collect _) _ _ _) | (with_reducible show wpAny _ _ (call _ _ _) _ _ _) | (with_reducible show wpAny _ _ (Builtin.Slots.install _ _ _ _) _ _ _) | (with_reducible show wpAny _ _ (Bind.refreshMaker _) _ _ _))); k_node))
  refine wpAny_mono (initK r hC) (fun v s' hv => ?_) (fun _ _ z => z.elim)
  obtain ⟨rfl, h', tk, rfl, k⟩ := hv
  have := hq h' tk k
  repeat (first | with_reducible refine Mine.nd_tryCatch ?_ | with_reducible refine wpAny_holding ?_ | k_unfold | (with_reducible refine wpAny_bind ?_; k_fold) | (with_reducible refine nd_bind ?_; k_fold) | with_reducible refine wpAny_holding ?_ | with_reducible refine wpAny_keep ?_ | (with_reducible refine wpAny_onRaise ?_; k_fold) | (with_reducible refine wpAny_tryCatch ?_; k_fold) | (with_reducible refine Mine.nd_tryCatch ?_; k_fold) | (with_reducible refine wpAny_attempt ?_; k_fold) | (with_reducible refine Mine.m_load (by first | exact PySem.W.X.Mem.at (by assumption) 0 _ _ rfl | exact PySem.W.X.Mem.at (by assumption) 1 _ _ rfl | exact PySem.W.X.Mem.at (by assumption) 2 _ _ rfl | exact PySem.W.X.Mem.at (by assumption) 3 _ _ rfl | exact PySem.W.X.Mem.old (by assumption) _ _ (by assumption) rfl) ?_) | ((with_reducible show wpAny _ _ (Sem.update _ _ _ _) _ _ _); first | (refine Mine.m_update (by assumption) 0 rfl _ rfl rfl ?_; intro _ _) | (refine Mine.m_update (by assumption) 1 rfl _ rfl rfl ?_; intro _ _) | (refine Mine.m_update (by assumption) 2 rfl _ rfl rfl ?_; intro _ _) | (refine Mine.m_update (by assumption) 3 rfl _ rfl rfl ?_; intro _ _)) | (first | ((with_reducible show wpAny _ _ (isSubtype _ _) _ _ _); first | refine wpAny_of_eq (Mine.q_sub_tuple) ?_ | refine wpAny_of_eq (Mine.q_sub_dict) ?_ | refine wpAny_of_eq (Mine.q_sub_type) ?_) | ((with_reducible show wpAny _ _ (typeOf (Value.type _)) _ _ _); first | refine wpAny_of_eq (Mine.q_ty_object) ?_) | ((with_reducible show wpAny _ _ (typeLookup (Value.type _) _) _ _ _); first | refine wpAny_of_eq (Mine.q_dict_iter) ?_ | refine wpAny_of_eq (Mine.q_sn_function) ?_ | refine wpAny_of_eq (Mine.q_sn_str) ?_ | refine wpAny_of_eq (Mine.q_sn_list) ?_ | refine wpAny_of_eq (Mine.q_sn_int) ?_ | refine wpAny_of_eq (Mine.q_sn_tuple) ?_ | refine wpAny_of_eq (Mine.q_sn_none) ?_ | refine wpAny_of_eq (Mine.q_sn_md) ?_) | ((with_reducible show wpAny _ _ (Builtin.extendedBase _) _ _ _); first | refine wpAny_of_eq (Mine.q_ext) ?_) | ((with_reducible show wpAny _ _ (Builtin.mroHook? _) _ _ _); first | refine wpAny_of_eq (Mine.q_hook) ?_) | ((with_reducible show wpAny _ _ (Builtin.Slots.givesWeak _) _ _ _); first | refine wpAny_of_eq (Mine.q_weak) ?_) | ((with_reducible show wpAny _ _ (Builtin.Slots.givesDict _) _ _ _); first | refine wpAny_of_eq (Mine.q_gdict) ?_) | ((with_reducible show wpAny _ _ (Builtin.Slots.varSize _) _ _ _); first | refine wpAny_of_eq (Mine.q_var) ?_) | ((with_reducible show wpAny _ _ (Builtin.Slots.bestBase _) _ _ _); first | refine wpAny_of_eq (Mine.q_best) ?_) | ((with_reducible show wpAny _ _ (Builtin.linearize _ _) _ _ _); first | refine wpAny_of_eq (Mine.q_lin) ?_) | ((with_reducible show wpAny _ _ (Bind.madeBy _) _ _ _); first | refine wpAny_of_eq (Mine.q_made) ?_) | ((with_reducible show wpAny _ _ (Builtin.notOverATurnedClass _) _ _ _); first | refine wpAny_of_eq (Mine.q_turned) ?_) | ((with_reducible show wpAny _ _ (Builtin.noteSubclassOfBuiltin _ _) _ _ _); first | refine wpAny_of_eq (Mine.q_note _) ?_) | ((with_reducible show wpAny _ _ (Builtin.Slots.slotNamesOf _) _ _ _); first | refine wpAny_of_eq (Mine.q_slotNames) ?_) | ((with_reducible show wpAny _ _ (classOwn (Value.type _) _) _ _ _); first | refine wpAny_of_eq (Mine.q_own_new) ?_)) | (with_reducible refine Mine.wpAny_ifF (by kernel_rfl!) ?_) | (with_reducible refine Mine.wpAny_ifT (by kernel_rfl!) ?_) | ((fail_if_success (first | (with_reducible show wpAny _ _ (isSubtype _ _) _ _ _) | (with_reducible show wpAny _ _ (typeOf (Value.type _)) _ _ _) | (with_reducible show wpAny _ _ (typeLookup (Value.type _) _) _ _ _) | (with_reducible show wpAny _ _ (Builtin.extendedBase _) _ _ _) | (with_reducible show wpAny _ _ (Builtin.mroHook? _) _ _ _) | (with_reducible show wpAny _ _ (Builtin.Slots.givesWeak _) _ _ _) | (with_reducible show wpAny _ _ (Builtin.Slots.givesDict _) _ _ _) | (with_reducible show wpAny _ _ (Builtin.Slots.varSize _) _ _ _) | (with_reducible show wpAny _ _ (Builtin.Slots.bestBase _) _ _ _) | (with_reducible show wpAny _ _ (Builtin.linearize _ _) _ _ _) | (with_reducible show wpAny _ _ (Bind.madeBy _) _ _ _) | (with_reducible show wpAny _ _ (Builtin.notOverATurnedClass _) _ _ _) | (with_reducible show wpAny _ _ (Builtin.noteSubclassOfBuiltin _ _) _ _ _) | (with_reducible show wpAny _ _ (Builtin.Slots.slotNamesOf _) _ _ _) | (with_reducible show wpAny _ _ (mroOf (Value.type _)) _ _ _) | (with_reducible show wpAny _ _ (classOwn (Value.type _) _) _ _ _) | (with_reducible show wpAny _ _ (Builtin.Slots.read _ _ _) _ _ _) | (with_reducible show wpAny _ _ (Sem.update _ _ _ _) _ _ _) | (with_reducible show wpAny _ _ (Sem.alloc _ _) _ _ _) | (with_reducible show wpAny _ _ (collect _) _ _ _) | (with_reducible show wpAny _ _ (call _ _ _) _ _ _) | (with_reducible show wpAny _ _ (Builtin.Slots.install _ _ _ _) _ _ _) | (with_reducible show wpAny _ _ (Bind.refreshMaker _) _ _ _))); k_node))
  exact this
theorem slotNew : Bind.madeBy (.type "type") = pure (some "type.__new__") := by kernel_rfl!
theorem mroTy : mroOf (.type "type") = pure [.type "type", .type "object"] := by kernel_rfl!
theorem tyCall {h : Heap} {g : Array GenState} {d : Drawn} {t : Nat} {os : OsState} {bt nsA : Addr} {tN : Tok} {R : Addr → Addr → Heap → Prop} {Q : PySem.Fin → Shared → Prop} (r : Room A 10)
    (hn : wpAny (model prog w) A (call (.builtin "type.__new__") [.type "type", .str "K" tN, .ref bt, .ref nsA]) (fun v s' => ∃ C ns tQ h' tk, v = .ref C ∧ s' = ⟨h', g, d, tk, os⟩ ∧ h'.get? C = some (clsK C ns bt tN tQ) ∧ R C ns h') NoE ⟨h, g, d, t, os⟩)
    (hq : ∀ C ns tQ h' h'' tk, h'.get? C = some (clsK C ns bt tN tQ) → R C ns h' → (∀ b o, h'.get? b = some o → h''.get? b = some o) → Q (.done (.ret (.ref C))) ⟨h'', g, d, tk, os⟩) :
    wpAny (model prog w) A (Builtin.«type.__call__» ⟨[.type "type", .str "K" tN, .ref bt, .ref nsA], []⟩) Q NoE ⟨h, g, d, t, os⟩ := by
  have D := Mem.start h
  unfold Builtin.«type.__call__»
  repeat (first | with_reducible refine Mine.nd_tryCatch ?_ | with_reducible refine wpAny_holding ?_ | k_unfold | (with_reducible refine wpAny_bind ?_; k_fold) | (with_reducible refine nd_bind ?_; k_fold) | with_reducible refine wpAny_holding ?_ | with_reducible refine wpAny_keep ?_ | (with_reducible refine wpAny_onRaise ?_; k_fold) | (with_reducible refine wpAny_tryCatch ?_; k_fold) | (with_reducible refine Mine.nd_tryCatch ?_; k_fold) | (with_reducible refine wpAny_attempt ?_; k_fold) | (with_reducible refine Mine.m_load (by first | exact PySem.W.X.Mem.at (by assumption) 0 _ _ rfl | exact PySem.W.X.Mem.at (by assumption) 1 _ _ rfl | exact PySem.W.X.Mem.at (by assumption) 2 _ _ rfl | exact PySem.W.X.Mem.at (by assumption) 3 _ _ rfl | exact PySem.W.X.Mem.old (by assumption) _ _ (by assumption) rfl) ?_) | ((with_reducible show wpAny _ _ (Sem.update _ _ _ _) _ _ _); first | (refine Mine.m_update (by assumption) 0 rfl _ rfl rfl ?_; intro _ _) | (refine Mine.m_update (by assumption) 1 rfl _ rfl rfl ?_; intro _ _) | (refine Mine.m_update (by assumption) 2 rfl _ rfl rfl ?_; intro _ _) | (refine Mine.m_update (by assumption) 3 rfl _ rfl rfl ?_; intro _ _)) | (first | ((with_reducible show wpAny _ _ (isSubtype _ _) _ _ _); first | refine wpAny_of_eq (Mine.q_sub_tuple) ?_ | refine wpAny_of_eq (Mine.q_sub_dict) ?_ | refine wpAny_of_eq (Mine.q_sub_type) ?_) | ((with_reducible show wpAny _ _ (typeOf (Value.type _)) _ _ _); first | refine wpAny_of_eq (Mine.q_ty_object) ?_) | ((with_reducible show wpAny _ _ (typeLookup (Value.type _) _) _ _ _); first | refine wpAny_of_eq (Mine.q_dict_iter) ?_ | refine wpAny_of_eq (Mine.q_sn_function) ?_ | refine wpAny_of_eq (Mine.q_sn_str) ?_ | refine wpAny_of_eq (Mine.q_sn_list) ?_ | refine wpAny_of_eq (Mine.q_sn_int) ?_ | refine wpAny_of_eq (Mine.q_sn_tuple) ?_ | refine wpAny_of_eq (Mine.q_sn_none) ?_ | refine wpAny_of_eq (Mine.q_sn_md) ?_) | ((with_reducible show wpAny _ _ (Builtin.extendedBase _) _ _ _); first | refine wpAny_of_eq (Mine.q_ext) ?_) | ((with_reducible show wpAny _ _ (Builtin.mroHook? _) _ _ _); first | refine wpAny_of_eq (Mine.q_hook) ?_) | ((with_reducible show wpAny _ _ (Builtin.Slots.givesWeak _) _ _ _); first | refine wpAny_of_eq (Mine.q_weak) ?_) | ((with_reducible show wpAny _ _ (Builtin.Slots.givesDict _) _ _ _); first | refine wpAny_of_eq (Mine.q_gdict) ?_) | ((with_reducible show wpAny _ _ (Builtin.Slots.varSize _) _ _ _); first | refine wpAny_of_eq (Mine.q_var) ?_) | ((with_reducible show wpAny _ _ (Builtin.Slots.bestBase _) _ _ _); first | refine wpAny_of_eq (Mine.q_best) ?_) | ((with_reducible show wpAny _ _ (Builtin.linearize _ _) _ _ _); first | refine wpAny_of_eq (Mine.q_lin) ?_) | ((with_reducible show wpAny _ _ (Bind.madeBy _) _ _ _); first | refine wpAny_of_eq (Mine.q_made) ?_) | ((with_reducible show wpAny _ _ (Builtin.notOverATurnedClass _) _ _ _); first | refine wpAny_of_eq (Mine.q_turned) ?_) | ((with_reducible show wpAny _ _ (Builtin.noteSubclassOfBuiltin _ _) _ _ _); first | refine wpAny_of_eq (Mine.q_note _) ?_) | ((with_reducible show wpAny _ _ (Builtin.Slots.slotNamesOf _) _ _ _); first | refine wpAny_of_eq (Mine.q_slotNames) ?_) | ((with_reducible show wpAny _ _ (classOwn (Value.type _) _) _ _ _); first | refine wpAny_of_eq (Mine.q_own_new) ?_)) | (with_reducible refine Mine.wpAny_ifF (by kernel_rfl!) ?_) | (with_reducible refine Mine.wpAny_ifT (by kernel_rfl!) ?_) | ((fail_if_success (first | (with_reducible show wpAny _ _ (isSubtype _ _) _ _ _) | (with_reducible show wpAny _ _ (typeOf (Value.type _)) _ _ _) | (with_reducible show wpAny _ _ (typeLookup (Value.type _) _) _ _ _) | (with_reducible show wpAny _ _ (Builtin.extendedBase _) _ _ _) | (with_reducible show wpAny _ _ (Builtin.mroHook? _) _ _ _) | (with_reducible show wpAny _ _ (Builtin.Slots.givesWeak _) _ _ _) | (with_reducible show wpAny _ _ (Builtin.Slots.givesDict _) _ _ _) | (with_reducible show wpAny _ _ (Builtin.Slots.varSize _) _ _ _) | (with_reducible show wpAny _ _ (Builtin.Slots.bestBase _) _ _ _) | (with_reducible show wpAny _ _ (Builtin.linearize _ _) _ _ _) | (with_reducible show wpAny _ _ (Bind.madeBy _) _ _ _) | (with_reducible show wpAny _ _ (Builtin.notOverATurnedClass _) _ _ _) | (with_reducible show wpAny _ _ (Builtin.noteSubclassOfBuiltin _ _) _ _ _) | (with_reducible show wpAny _ _ (Builtin.Slots.slotNamesOf _) _ _ _) | (with_reducible show wpAny _ _ (mroOf (Value.type _)) _ _ _) | (with_reducible show wpAny _ _ (classOwn (Value.type _) _) _ _ _) | (with_reducible show wpAny _ _ (Builtin.Slots.read _ _ _) _ _ _) | (with_reducible show wpAny _ _ (Sem.update _ _ _ _) _ _ _) | (with_reducible show wpAny _ _ (Sem.alloc _ _) _ _ _) | (with_reducible show wpAny _ _ (collect _) _ _ _) | (with_reducible show wpAny _ _ (call _ _ _) _ _ _) | (with_reducible show wpAny _ _ (Builtin.Slots.install _ _ _ _) _ _ _) | (with_reducible show wpAny _ _ (Bind.refreshMaker _) _ _ _))); k_node))
  refine wpAny_of_eq mroTy ?_
  repeat (first | with_reducible refine Mine.nd_tryCatch ?_ | with_reducible refine wpAny_holding ?_ | k_unfold | (with_reducible refine wpAny_bind ?_; k_fold) | (with_reducible refine nd_bind ?_; k_fold) | with_reducible refine wpAny_holding ?_ | with_reducible refine wpAny_keep ?_ | (with_reducible refine wpAny_onRaise ?_; k_fold) | (with_reducible refine wpAny_tryCatch ?_; k_fold) | (with_reducible refine Mine.nd_tryCatch ?_; k_fold) | (with_reducible refine wpAny_attempt ?_; k_fold) | (with_reducible refine Mine.m_load (by first | exact PySem.W.X.Mem.at (by assumption) 0 _ _ rfl | exact PySem.W.X.Mem.at (by assumption) 1 _ _ rfl | exact PySem.W.X.Mem.at (by assumption) 2 _ _ rfl | exact PySem.W.X.Mem.at (by assumption) 3 _ _ rfl | exact PySem.W.X.Mem.old (by assumption) _ _ (by assumption) rfl) ?_) | ((with_reducible show wpAny _ _ (Sem.update _ _ _ _) _ _ _); first | (refine Mine.m_update (by assumption) 0 rfl _ rfl rfl ?_; intro _ _) | (refine Mine.m_update (by assumption) 1 rfl _ rfl rfl ?_; intro _ _) | (refine Mine.m_update (by assumption) 2 rfl _ rfl rfl ?_; intro _ _) | (refine Mine.m_update (by assumption) 3 rfl _ rfl rfl ?_; intro _ _)) | (first | ((with_reducible show wpAny _ _ (isSubtype _ _) _ _ _); first | refine wpAny_of_eq (Mine.q_sub_tuple) ?_ | refine wpAny_of_eq (Mine.q_sub_dict) ?_ | refine wpAny_of_eq (Mine.q_sub_type) ?_) | ((with_reducible show wpAny _ _ (typeOf (Value.type _)) _ _ _); first | refine wpAny_of_eq (Mine.q_ty_object) ?_) | ((with_reducible show wpAny _ _ (typeLookup (Value.type _) _) _ _ _); first | refine wpAny_of_eq (Mine.q_dict_iter) ?_ | refine wpAny_of_eq (Mine.q_sn_function) ?_ | refine wpAny_of_eq (Mine.q_sn_str) ?_ | refine wpAny_of_eq (Mine.q_sn_list) ?_ | refine wpAny_of_eq (Mine.q_sn_int) ?_ | refine wpAny_of_eq (Mine.q_sn_tuple) ?_ | refine wpAny_of_eq (Mine.q_sn_none) ?_ | refine wpAny_of_eq (Mine.q_sn_md) ?_) | ((with_reducible show wpAny _ _ (Builtin.extendedBase _) _ _ _); first | refine wpAny_of_eq (Mine.q_ext) ?_) | ((with_reducible show wpAny _ _ (Builtin.mroHook? _) _ _ _); first | refine wpAny_of_eq (Mine.q_hook) ?_) | ((with_reducible show wpAny _ _ (Builtin.Slots.givesWeak _) _ _ _); first | refine wpAny_of_eq (Mine.q_weak) ?_) | ((with_reducible show wpAny _ _ (Builtin.Slots.givesDict _) _ _ _); first | refine wpAny_of_eq (Mine.q_gdict) ?_) | ((with_reducible show wpAny _ _ (Builtin.Slots.varSize _) _ _ _); first | refine wpAny_of_eq (Mine.q_var) ?_) | ((with_reducible show wpAny _ _ (Builtin.Slots.bestBase _) _ _ _); first | refine wpAny_of_eq (Mine.q_best) ?_) | ((with_reducible show wpAny _ _ (Builtin.linearize _ _) _ _ _); first | refine wpAny_of_eq (Mine.q_lin) ?_) | ((with_reducible show wpAny _ _ (Bind.madeBy _) _ _ _); first | refine wpAny_of_eq (Mine.q_made) ?_) | ((with_reducible show wpAny _ _ (Builtin.notOverATurnedClass _) _ _ _); first | refine wpAny_of_eq (Mine.q_turned) ?_) | ((with_reducible show wpAny _ _ (Builtin.noteSubclassOfBuiltin _ _) _ _ _); first | refine wpAny_of_eq (Mine.q_note _) ?_) | ((with_reducible show wpAny _ _ (Builtin.Slots.slotNamesOf _) _ _ _); first | refine wpAny_of_eq (Mine.q_slotNames) ?_) | ((with_reducible show wpAny _ _ (classOwn (Value.type _) _) _ _ _); first | refine wpAny_of_eq (Mine.q_own_new) ?_)) | (with_reducible refine Mine.wpAny_ifF (by kernel_rfl!) ?_) | (with_reducible refine Mine.wpAny_ifT (by kernel_rfl!) ?_) | ((fail_if_success (first | (with_reducible show wpAny _ _ (isSubtype _ _) _ _ _) | (with_reducible show wpAny _ _ (typeOf (Value.type _)) _ _ _) | (with_reducible show wpAny _ _ (typeLookup (Value.type _) _) _ _ _) | (with_reducible show wpAny _ _ (Builtin.extendedBase _) _ _ _) | (with_reducible show wpAny _ _ (Builtin.mroHook? _) _ _ _) | (with_reducible show wpAny _ _ (Builtin.Slots.givesWeak _) _ _ _) | (with_reducible show wpAny _ _ (Builtin.Slots.givesDict _) _ _ _) | (with_reducible show wpAny _ _ (Builtin.Slots.varSize _) _ _ _) | (with_reducible show wpAny _ _ (Builtin.Slots.bestBase _) _ _ _) | (with_reducible show wpAny _ _ (Builtin.linearize _ _) _ _ _) | (with_reducible show wpAny _ _ (Bind.madeBy _) _ _ _) | (with_reducible show wpAny _ _ (Builtin.notOverATurnedClass _) _ _ _) | (with_reducible show wpAny _ _ (Builtin.noteSubclassOfBuiltin _ _) _ _ _) | (with_reducible show wpAny _ _ (Builtin.Slots.slotNamesOf _) _ _ _) | (with_reducible show wpAny _ _ (mroOf (Value.type _)) _ _ _) | (with_reducible show wpAny _ _ (classOwn (Value.type _) _) _ _ _) | (with_reducible show wpAny _ _ (Builtin.Slots.read _ _ _) _ _ _) | (with_reducible show wpAny _ _ (Sem.update _ _ _ _) _ _ _) | (with_reducible show wpAny _ _ (Sem.alloc _ _) _ _ _) | (with_reducible show wpAny _ _ (collect _) _ _ _) | (with_reducible show wpAny _ _ (call _ _ _) _ _ _) | (with_reducible show wpAny _ _ (Builtin.Slots.install _ _ _ _) _ _ _) | (with_reducible show wpAny _ _ (Bind.refreshMaker _) _ _ _))); k_node))
  refine wpAny_of_eq slotNew ?_
  repeat (first | with_reducible refine Mine.nd_tryCatch ?_ | with_reducible refine wpAny_holding ?_ | k_unfold | (with_reducible refine wpAny_bind ?_; k_fold) | (with_reducible refine nd_bind ?_; k_fold) | with_reducible refine wpAny_holding ?_ | with_reducible refine wpAny_keep ?_ | (with_reducible refine wpAny_onRaise ?_; k_fold) | (with_reducible refine wpAny_tryCatch ?_; k_fold) | (with_reducible refine Mine.nd_tryCatch ?_; k_fold) | (with_reducible refine wpAny_attempt ?_; k_fold) | (with_reducible refine Mine.m_load (by first | exact PySem.W.X.Mem.at (by assumption) 0 _ _ rfl | exact PySem.W.X.Mem.at (by assumption) 1 _ _ rfl | exact PySem.W.X.Mem.at (by assumption) 2 _ _ rfl | exact PySem.W.X.Mem.at (by assumption) 3 _ _ rfl | exact PySem.W.X.Mem.old (by assumption) _ _ (by assumption) rfl) ?_) | ((with_reducible show wpAny _ _ (Sem.update _ _ _ _) _ _ _); first | (refine Mine.m_update (by assumption) 0 rfl _ rfl rfl ?_; intro _ _) | (refine Mine.m_update (by assumption) 1 rfl _ rfl rfl ?_; intro _ _) | (refine Mine.m_update (by assumption) 2 rfl _ rfl rfl ?_; intro _ _) | (refine Mine.m_update (by assumption) 3 rfl _ rfl rfl ?_; intro _ _)) | (first | ((with_reducible show wpAny _ _ (isSubtype _ _) _ _ _); first | refine wpAny_of_eq (Mine.q_sub_tuple) ?_ | refine wpAny_of_eq (Mine.q_sub_dict) ?_ | refine wpAny_of_eq (Mine.q_sub_type) ?_) | ((with_reducible show wpAny _ _ (typeOf (Value.type _)) _ _ _); first | refine wpAny_of_eq (Mine.q_ty_object) ?_) | ((with_reducible show wpAny _ _ (typeLookup (Value.type _) _) _ _ _); first | refine wpAny_of_eq (Mine.q_dict_iter) ?_ | refine wpAny_of_eq (Mine.q_sn_function) ?_ | refine wpAny_of_eq (Mine.q_sn_str) ?_ | refine wpAny_of_eq (Mine.q_sn_list) ?_ | refine wpAny_of_eq (Mine.q_sn_int) ?_ | refine wpAny_of_eq (Mine.q_sn_tuple) ?_ | refine wpAny_of_eq (Mine.q_sn_none) ?_ | refine wpAny_of_eq (Mine.q_sn_md) ?_) | ((with_reducible show wpAny _ _ (Builtin.extendedBase _) _ _ _); first | refine wpAny_of_eq (Mine.q_ext) ?_) | ((with_reducible show wpAny _ _ (Builtin.mroHook? _) _ _ _); first | refine wpAny_of_eq (Mine.q_hook) ?_) | ((with_reducible show wpAny _ _ (Builtin.Slots.givesWeak _) _ _ _); first | refine wpAny_of_eq (Mine.q_weak) ?_) | ((with_reducible show wpAny _ _ (Builtin.Slots.givesDict _) _ _ _); first | refine wpAny_of_eq (Mine.q_gdict) ?_) | ((with_reducible show wpAny _ _ (Builtin.Slots.varSize _) _ _ _); first | refine wpAny_of_eq (Mine.q_var) ?_) | ((with_reducible show wpAny _ _ (Builtin.Slots.bestBase _) _ _ _); first | refine wpAny_of_eq (Mine.q_best) ?_) | ((with_reducible show wpAny _ _ (Builtin.linearize _ _) _ _ _); first | refine wpAny_of_eq (Mine.q_lin) ?_) | ((with_reducible show wpAny _ _ (Bind.madeBy _) _ _ _); first | refine wpAny_of_eq (Mine.q_made) ?_) | ((with_reducible show wpAny _ _ (Builtin.notOverATurnedClass _) _ _ _); first | refine wpAny_of_eq (Mine.q_turned) ?_) | ((with_reducible show wpAny _ _ (Builtin.noteSubclassOfBuiltin _ _) _ _ _); first | refine wpAny_of_eq (Mine.q_note _) ?_) | ((with_reducible show wpAny _ _ (Builtin.Slots.slotNamesOf _) _ _ _); first | refine wpAny_of_eq (Mine.q_slotNames) ?_) | ((with_reducible show wpAny _ _ (classOwn (Value.type _) _) _ _ _); first | refine wpAny_of_eq (Mine.q_own_new) ?_)) | (with_reducible refine Mine.wpAny_ifF (by kernel_rfl!) ?_) | (with_reducible refine Mine.wpAny_ifT (by kernel_rfl!) ?_) | ((fail_if_success (first | (with_reducible show wpAny _ _ (isSubtype _ _) _ _ _) | (with_reducible show wpAny _ _ (typeOf (Value.type _)) _ _ _) | (with_reducible show wpAny _ _ (typeLookup (Value.type _) _) _ _ _) | (with_reducible show wpAny _ _ (Builtin.extendedBase _) _ _ _) | (with_reducible show wpAny _ _ (Builtin.mroHook? _) _ _ _) | (with_reducible show wpAny _ _ (Builtin.Slots.givesWeak _) _ _ _) | (with_reducible show wpAny _ _ (Builtin.Slots.givesDict _) _ _ _) | (with_reducible show wpAny _ _ (Builtin.Slots.varSize _) _ _ _) | (with_reducible show wpAny _ _ (Builtin.Slots.bestBase _) _ _ _) | (with_reducible show wpAny _ _ (Builtin.linearize _ _) _ _ _) | (with_reducible show wpAny _ _ (Bind.madeBy _) _ _ _) | (with_reducible show wpAny _ _ (Builtin.notOverATurnedClass _) _ _ _) | (with_reducible show wpAny _ _ (Builtin.noteSubclassOfBuiltin _ _) _ _ _) | (with_reducible show wpAny _ _ (Builtin.Slots.slotNamesOf _) _ _ _) | (with_reducible show wpAny _ _ (mroOf (Value.type _)) _ _ _) | (with_reducible show wpAny _ _ (classOwn (Value.type _) _) _ _ _) | (with_reducible show wpAny _ _ (Builtin.Slots.read _ _ _) _ _ _) | (with_reducible show wpAny _ _ (Sem.update _ _ _ _) _ _ _) | (with_reducible show wpAny _ _ (Sem.alloc _ _) _ _ _) | (with_reducible show wpAny _ _ (collect _) _ _ _) | (with_reducible show wpAny _ _ (call _ _ _) _ _ _) | (with_reducible show wpAny _ _ (Builtin.Slots.install _ _ _ _) _ _ _) | (with_reducible show wpAny _ _ (Bind.refreshMaker _) _ _ _))); k_node))
  refine wpAny_mono hn (fun v s' hv => ?_) (fun _ _ z => z.elim)
  obtain ⟨C, ns, tQ, h', tk, rfl, rfl, eC, eR⟩ := hv
  show wpAny _ _ _ _ _ _
  refine wpAny_bind (instK eC ?_)
  repeat (first | (with_reducible refine wpAny_bind (wpAny_holding (initSp r eC ?_))) | (first | with_reducible refine Mine.nd_tryCatch ?_ | with_reducible refine wpAny_holding ?_ | k_unfold | (with_reducible refine wpAny_bind ?_; k_fold) | (with_reducible refine nd_bind ?_; k_fold) | with_reducible refine wpAny_holding ?_ | with_reducible refine wpAny_keep ?_ | (with_reducible refine wpAny_onRaise ?_; k_fold) | (with_reducible refine wpAny_tryCatch ?_; k_fold) | (with_reducible refine Mine.nd_tryCatch ?_; k_fold) | (with_reducible refine wpAny_attempt ?_; k_fold) | (with_reducible refine Mine.m_load (by first | exact PySem.W.X.Mem.at (by assumption) 0 _ _ rfl | exact PySem.W.X.Mem.at (by assumption) 1 _ _ rfl | exact PySem.W.X.Mem.at (by assumption) 2 _ _ rfl | exact PySem.W.X.Mem.at (by assumption) 3 _ _ rfl | exact PySem.W.X.Mem.old (by assumption) _ _ (by assumption) rfl) ?_) | ((with_reducible show wpAny _ _ (Sem.update _ _ _ _) _ _ _); first | (refine Mine.m_update (by assumption) 0 rfl _ rfl rfl ?_; intro _ _) | (refine Mine.m_update (by assumption) 1 rfl _ rfl rfl ?_; intro _ _) | (refine Mine.m_update (by assumption) 2 rfl _ rfl rfl ?_; intro _ _) | (refine Mine.m_update (by assumption) 3 rfl _ rfl rfl ?_; intro _ _)) | (first | ((with_reducible show wpAny _ _ (isSubtype _ _) _ _ _); first | refine wpAny_of_eq (Mine.q_sub_tuple) ?_ | refine wpAny_of_eq (Mine.q_sub_dict) ?_ | refine wpAny_of_eq (Mine.q_sub_type) ?_) | ((with_reducible show wpAny _ _ (typeOf (Value.type _)) _ _ _); first | refine wpAny_of_eq (Mine.q_ty_object) ?_) | ((with_reducible show wpAny _ _ (typeLookup (Value.type _) _) _ _ _); first | refine wpAny_of_eq (Mine.q_dict_iter) ?_ | refine wpAny_of_eq (Mine.q_sn_function) ?_ | refine wpAny_of_eq (Mine.q_sn_str) ?_ | refine wpAny_of_eq (Mine.q_sn_list) ?_ | refine wpAny_of_eq (Mine.q_sn_int) ?_ | refine wpAny_of_eq (Mine.q_sn_tuple) ?_ | refine wpAny_of_eq (Mine.q_sn_none) ?_ | refine wpAny_of_eq (Mine.q_sn_md) ?_) | ((with_reducible show wpAny _ _ (Builtin.extendedBase _) _ _ _); first | refine wpAny_of_eq (Mine.q_ext) ?_) | ((with_reducible show wpAny _ _ (Builtin.mroHook? _) _ _ _); first | refine wpAny_of_eq (Mine.q_hook) ?_) | ((with_reducible show wpAny _ _ (Builtin.Slots.givesWeak _) _ _ _); first | refine wpAny_of_eq (Mine.q_weak) ?_) | ((with_reducible show wpAny _ _ (Builtin.Slots.givesDict _) _ _ _); first | refine wpAny_of_eq (Mine.q_gdict) ?_) | ((with_reducible show wpAny _ _ (Builtin.Slots.varSize _) _ _ _); first | refine wpAny_of_eq (Mine.q_var) ?_) | ((with_reducible show wpAny _ _ (Builtin.Slots.bestBase _) _ _ _); first | refine wpAny_of_eq (Mine.q_best) ?_) | ((with_reducible show wpAny _ _ (Builtin.linearize _ _) _ _ _); first | refine wpAny_of_eq (Mine.q_lin) ?_) | ((with_reducible show wpAny _ _ (Bind.madeBy _) _ _ _); first | refine wpAny_of_eq (Mine.q_made) ?_) | ((with_reducible show wpAny _ _ (Builtin.notOverATurnedClass _) _ _ _); first | refine wpAny_of_eq (Mine.q_turned) ?_) | ((with_reducible show wpAny _ _ (Builtin.noteSubclassOfBuiltin _ _) _ _ _); first | refine wpAny_of_eq (Mine.q_note _) ?_) | ((with_reducible show wpAny _ _ (Builtin.Slots.slotNamesOf _) _ _ _); first | refine wpAny_of_eq (Mine.q_slotNames) ?_) | ((with_reducible show wpAny _ _ (classOwn (Value.type _) _) _ _ _); first | refine wpAny_of_eq (Mine.q_own_new) ?_)) | (with_reducible refine Mine.wpAny_ifF (by kernel_rfl!) ?_) | (with_reducible refine Mine.wpAny_ifT (by kernel_rfl!) ?_) | ((fail_if_success (first | (with_reducible show wpAny _ _ (isSubtype _ _) _ _ _) | (with_reducible show wpAny _ _ (typeOf (Value.type _)) _ _ _) | (with_reducible show wpAny _ _ (typeLookup (Value.type _) _) _ _ _) | (with_reducible show wpAny _ _ (Builtin.extendedBase _) _ _ _) | (with_reducible show wpAny _ _ (Builtin.mroHook? _) _ _ _) | (with_reducible show wpAny _ _ (Builtin.Slots.givesWeak _) _ _ _) | (with_reducible show wpAny _ _ (Builtin.Slots.givesDict _) _ _ _) | (with_reducible show wpAny _ _ (Builtin.Slots.varSize _) _ _ _) | (with_reducible show wpAny _ _ (Builtin.Slots.bestBase _) _ _ _) | (with_reducible show wpAny _ _ (Builtin.linearize _ _) _ _ _) | (with_reducible show wpAny _ _ (Bind.madeBy _) _ _ _) | (with_reducible show wpAny _ _ (Builtin.notOverATurnedClass _) _ _ _) | (with_reducible show wpAny _ _ (Builtin.noteSubclassOfBuiltin _ _) _ _ _) | (with_reducible show wpAny _ _ (Builtin.Slots.slotNamesOf _) _ _ _) | (with_reducible show wpAny _ _ (mroOf (Value.type _)) _ _ _) | (with_reducible show wpAny _ _ (classOwn (Value.type _) _) _ _ _) | (with_reducible show wpAny _ _ (Builtin.Slots.read _ _ _) _ _ _) | (with_reducible show wpAny _ _ (Sem.update _ _ _ _) _ _ _) | (with_reducible show wpAny _ _ (Sem.alloc _ _) _ _ _) | (with_reducible show wpAny _ _ (collect _) _ _ _) | (with_reducible show wpAny _ _ (call _ _ _) _ _ _) | (with_reducible show wpAny _ _ (Builtin.Slots.install _ _ _ _) _ _ _) | (with_reducible show wpAny _ _ (Bind.refreshMaker _) _ _ _))); k_node)))
  intro h'' tk2 kk
  have := hq C ns tQ h' h'' tk2 eC eR kk
  repeat (first | with_reducible refine Mine.nd_tryCatch ?_ | with_reducible refine wpAny_holding ?_ | k_unfold | (with_reducible refine wpAny_bind ?_; k_fold) | (with_reducible refine nd_bind ?_; k_fold) | with_reducible refine wpAny_holding ?_ | with_reducible refine wpAny_keep ?_ | (with_reducible refine wpAny_onRaise ?_; k_fold) | (with_reducible refine wpAny_tryCatch ?_; k_fold) | (with_reducible refine Mine.nd_tryCatch ?_; k_fold) | (with_reducible refine wpAny_attempt ?_; k_fold) | (with_reducible refine Mine.m_load (by first | exact PySem.W.X.Mem.at (by assumption) 0 _ _ rfl | exact PySem.W.X.Mem.at (by assumption) 1 _ _ rfl | exact PySem.W.X.Mem.at (by assumption) 2 _ _ rfl | exact PySem.W.X.Mem.at (by assumption) 3 _ _ rfl | exact PySem.W.X.Mem.old (by assumption) _ _ (by assumption) rfl) ?_) | ((with_reducible show wpAny _ _ (Sem.update _ _ _ _) _ _ _); first | (refine Mine.m_update (by assumption) 0 rfl _ rfl rfl ?_; intro _ _) | (refine Mine.m_update (by assumption) 1 rfl _ rfl rfl ?_; intro _ _) | (refine Mine.m_update (by assumption) 2 rfl _ rfl rfl ?_; intro _ _) | (refine Mine.m_update (by assumption) 3 rfl _ rfl rfl ?_; intro _ _)) | (first | ((with_reducible show wpAny _ _ (isSubtype _ _) _ _ _); first | refine wpAny_of_eq (Mine.q_sub_tuple) ?_ | refine wpAny_of_eq (Mine.q_sub_dict) ?_ | refine wpAny_of_eq (Mine.q_sub_type) ?_) | ((with_reducible show wpAny _ _ (typeOf (Value.type _)) _ _ _); first | refine wpAny_of_eq (Mine.q_ty_object) ?_) | ((with_reducible show wpAny _ _ (typeLookup (Value.type _) _) _ _ _); first | refine wpAny_of_eq (Mine.q_dict_iter) ?_ | refine wpAny_of_eq (Mine.q_sn_function) ?_ | refine wpAny_of_eq (Mine.q_sn_str) ?_ | refine wpAny_of_eq (Mine.q_sn_list) ?_ | refine wpAny_of_eq (Mine.q_sn_int) ?_ | refine wpAny_of_eq (Mine.q_sn_tuple) ?_ | refine wpAny_of_eq (Mine.q_sn_none) ?_ | refine wpAny_of_eq (Mine.q_sn_md) ?_) | ((with_reducible show wpAny _ _ (Builtin.extendedBase _) _ _ _); first | refine wpAny_of_eq (Mine.q_ext) ?_) | ((with_reducible show wpAny _ _ (Builtin.mroHook? _) _ _ _); first | refine wpAny_of_eq (Mine.q_hook) ?_) | ((with_reducible show wpAny _ _ (Builtin.Slots.givesWeak _) _ _ _); first | refine wpAny_of_eq (Mine.q_weak) ?_) | ((with_reducible show wpAny _ _ (Builtin.Slots.givesDict _) _ _ _); first | refine wpAny_of_eq (Mine.q_gdict) ?_) | ((with_reducible show wpAny _ _ (Builtin.Slots.varSize _) _ _ _); first | refine wpAny_of_eq (Mine.q_var) ?_) | ((with_reducible show wpAny _ _ (Builtin.Slots.bestBase _) _ _ _); first | refine wpAny_of_eq (Mine.q_best) ?_) | ((with_reducible show wpAny _ _ (Builtin.linearize _ _) _ _ _); first | refine wpAny_of_eq (Mine.q_lin) ?_) | ((with_reducible show wpAny _ _ (Bind.madeBy _) _ _ _); first | refine wpAny_of_eq (Mine.q_made) ?_) | ((with_reducible show wpAny _ _ (Builtin.notOverATurnedClass _) _ _ _); first | refine wpAny_of_eq (Mine.q_turned) ?_) | ((with_reducible show wpAny _ _ (Builtin.noteSubclassOfBuiltin _ _) _ _ _); first | refine wpAny_of_eq (Mine.q_note _) ?_) | ((with_reducible show wpAny _ _ (Builtin.Slots.slotNamesOf _) _ _ _); first | refine wpAny_of_eq (Mine.q_slotNames) ?_) | ((with_reducible show wpAny _ _ (classOwn (Value.type _) _) _ _ _); first | refine wpAny_of_eq (Mine.q_own_new) ?_)) | (with_reducible refine Mine.wpAny_ifF (by kernel_rfl!) ?_) | (with_reducible refine Mine.wpAny_ifT (by kernel_rfl!) ?_) | ((fail_if_success (first | (with_reducible show wpAny _ _ (isSubtype _ _) _ _ _) | (with_reducible show wpAny _ _ (typeOf (Value.type _)) _ _ _) | (with_reducible show wpAny _ _ (typeLookup (Value.type _) _) _ _ _) | (with_reducible show wpAny _ _ (Builtin.extendedBase _) _ _ _) | (with_reducible show wpAny _ _ (Builtin.mroHook? _) _ _ _) | (with_reducible show wpAny _ _ (Builtin.Slots.givesWeak _) _ _ _) | (with_reducible show wpAny _ _ (Builtin.Slots.givesDict _) _ _ _) | (with_reducible show wpAny _ _ (Builtin.Slots.varSize _) _ _ _) | (with_reducible show wpAny _ _ (Builtin.Slots.bestBase _) _ _ _) | (with_reducible show wpAny _ _ (Builtin.linearize _ _) _ _ _) | (with_reducible show wpAny _ _ (Bind.madeBy _) _ _ _) | (with_reducible show wpAny _ _ (Builtin.notOverATurnedClass _) _ _ _) | (with_reducible show wpAny _ _ (Builtin.noteSubclassOfBuiltin _ _) _ _ _) | (with_reducible show wpAny _ _ (Builtin.Slots.slotNamesOf _) _ _ _) | (with_reducible show wpAny _ _ (mroOf (Value.type _)) _ _ _) | (with_reducible show wpAny _ _ (classOwn (Value.type _) _) _ _ _) | (with_reducible show wpAny _ _ (Builtin.Slots.read _ _ _) _ _ _) | (with_reducible show wpAny _ _ (Sem.update _ _ _ _) _ _ _) | (with_reducible show wpAny _ _ (Sem.alloc _ _) _ _ _) | (with_reducible show wpAny _ _ (collect _) _ _ _) | (with_reducible show wpAny _ _ (call _ _ _) _ _ _) | (with_reducible show wpAny _ _ (Builtin.Slots.install _ _ _ _) _ _ _) | (with_reducible show wpAny _ _ (Bind.refreshMaker _) _ _ _))); k_node))
  exact this
end
end Mine

-- part LTypeD
set_option maxRecDepth 100000
set_option maxHeartbeats 0
set_option pp.deepTerms false
set_option pp.maxSteps 3000
namespace Mine
open PySem PySem.W PySem.W.X PyProof.Rows PySem.Calls
theorem entry_type_new : entryFor table "type.__new__" = some Builtin.«type.__new__» := entryFor_of_fast (by kernel_rfl!)
theorem check_type_new (a b c : Value) : checkBuiltinCall "type.__new__" ⟨[.type "type", a, b, c], []⟩ = pure () := by kernel_rfl!
theorem plain_type_new : plainId "type.__new__" = true := by decide +kernel
section
variable {prog : Program} {w : World} {A : Around} {E : Value → Shared → Prop}
theorem newCall {s : Shared} {a b c : Value} {Q : Value → Shared → Prop}
    (hq : wpAny (model prog w) A.in1 (Builtin.«type.__new__» ⟨[.type "type", a, b, c], []⟩) (fun fin s' => ∃ v, fin = .done (.ret v) ∧ Q v s') NoE s) :
    wpAny (model prog w) A (call (.builtin "type.__new__") [.type "type", a, b, c]) Q E s := by
  refine wpAny_call (codeAny_call_builtin plain_type_new entry_type_new ?_)
  rw [check_type_new]
  refine wpAny_pure (wpAny_mono hq (fun fin s' h' => ?_) (fun _ _ z => z.elim))
  obtain ⟨v, rfl, hv⟩ := h'
  exact hv
theorem tyTypeCall {s : Shared} {bt nsA : Addr} {tN : Tok} {Q : Value → Shared → Prop}
    (hq : wpAny (model prog w) A.in1 (Builtin.«type.__call__» ⟨[.type "type", .str "K" tN, .ref bt, .ref nsA], []⟩) (fun fin s' => ∃ v, fin = .done (.ret v) ∧ Q v s') NoE s) :
    wpAny (model prog w) A (call (.type "type") [.str "K" tN, .ref bt, .ref nsA]) Q E s := by
  refine wpAny_call (codeAny_of_tree ?_)
  show wpAny _ _ (callAny (.type "type") _) _ _ _
  refine wpAny_pure ⟨Code.quiet_builtin _ (by decide +kernel), codeAny_builtin F.entry_type_call ?_⟩
  rw [Around.under_plain (weight_type_call_type "type" _ []) rfl]
  refine wpAny_mono hq (fun fin s' hv => ?_) (fun _ _ z => z.elim)
  obtain ⟨v, rfl, hv⟩ := hv
  exact hv
-- type("K", (object,), ns)
theorem mkK {h : Heap} {g : Array GenState} {d : Drawn} {t : Nat} {os : OsState} {e : Nat → Int} {k u : Nat → Tok} {bt nsA sl sa : Addr} {f : Nat → Addr} {fd : Nat → FuncData} {t0 u3 tN : Tok} {n1 n2 n3 n4 : Nat} {Q : Value → Shared → Prop} (r : Room A 20) (KX : (KP w.params).In h)
    (h1 : h.get? bt = some (tupO [.type "object"] n1)) (h2 : h.get? sl = some (listO [.str "obj" t0] n2)) (hne : nsA ≠ 1)
    (g0 : ∀ i, i < 6 → h.get? (f i) = some { cls := .type "function", data := .func (fd i) }) (g6 : h.get? sa = some (tupO [.str "obj" u3] n3))
    (h4 : h.get? nsA = some (dictOf (entA e k u sl sa f) n4))
    (hq : ∀ C ns md n tm t1 t2 tQ h' tk, (∀ b o, h.get? b = some o → h'.get? b = some o) → h.get? C = none → h.get? ns = none → h.get? md = none → h'.get? C = some (clsK C ns bt tN tQ) → h'.get? ns = some (dictOf (entB w e k u sl sa f md t1 t2) n) →
      h'.get? md = some { cls := .type "member_descriptor", data := .fields #[.str "obj" tm, .ref C, .builtin "proto.slot", .builtin "proto.slot#set", rawInt 0] } → Q (.ref C) ⟨h', g, d, tk, os⟩) :
    wpAny (model prog w) A (call (.type "type") [.str "K" tN, .ref bt, .ref nsA]) Q E ⟨h, g, d, t, os⟩ := by
  have r1 : Room A.in1 19 := Room.in1 r
  have r2 : Room A.in1.in1 18 := Room.in1 r1
  refine tyTypeCall (tyCall (R := fun C ns h' => (∀ b o, h.get? b = some o → h'.get? b = some o) ∧ h.get? C = none ∧ h.get? ns = none ∧ ∃ md n tm t1 t2, h.get? md = none ∧ h'.get? ns = some (dictOf (entB w e k u sl sa f md t1 t2) n) ∧ h'.get? md = some { cls := .type "member_descriptor", data := .fields #[.str "obj" tm, .ref C, .builtin "proto.slot", .builtin "proto.slot#set", rawInt 0] }) (r1.mono (by decide)) (newCall ?_) ?_)
  · refine newK (fd := fd) (r2.mono (by decide)) KX h1 h2 hne g0 g6 h4 ?_
    intro C ns md n t1 t2 h' tk a1 a2 a3 a4 a5 a6 a7
    exact ⟨_, rfl, C, ns, u 2, h', tk, rfl, rfl, a5, a1, a2, a3, md, n, t, t1, t2, a4, a6, a7⟩
  · rintro C ns tQ h' h'' tk eC ⟨b1, b2, b3, md, n, tm, t1, t2, b4, b5, b6⟩ kk
    exact ⟨_, rfl, hq C ns md n tm t1 t2 tQ h'' tk (fun b o z => kk _ _ (b1 b o z)) b2 b3 b4 (kk _ _ eC) (kk _ _ b5) (kk _ _ b6)⟩
end
end Mine

-- part LEnter
set_option maxRecDepth 100000
set_option maxHeartbeats 0
namespace Mine
open PySem PySem.W PySem.W.X PyProof.Rows PySem.Calls

-- all that is new stays from now on
noncomputable def frz (I : Kn) (h h' : Heap) : Kn := fun b => match I b with
  | some o => some o
  | none => if (h.get? b).isNone then h'.get? b else none
structure GrowT (T : Addr) (h : Heap) (I : Kn) (h' : Heap) (I' : Kn) : Prop where
  keep : ∀ b o, b ≠ T → b ≠ 93 → h.get? b = some o → h'.get? b = some o
  tab : Tab I' h'
  le : le I I'
  inh : InH I' h'
  new : ∀ b o, I' b = some o → I b = some o ∨ h.get? b = none
theorem frz_new {I : Kn} {h h' : Heap} {b : Addr} {o : Obj} (k : InH I h) (e : h.get? b = none) (e' : h'.get? b = some o) : frz I h h' b = some o := by
  unfold frz
  cases q : I b with
  | some o' => rw [k _ _ q] at e; cases e
  | none => simp only [e, Option.isNone_none, if_true, e']
theorem frz_le {I : Kn} {h h' : Heap} : le I (frz I h h') := fun b o e => by unfold frz; rw [e]
theorem frz_cases {I : Kn} {h h' : Heap} {b : Addr} {o : Obj} (e : frz I h h' b = some o) : I b = some o ∨ (h.get? b = none ∧ h'.get? b = some o) := by
  unfold frz at e
  split at e
  · rename_i o' q; cases e; exact .inl q
  · split at e
    · rename_i q; exact .inr ⟨by simpa using q, e⟩
    · cases e
theorem frz_growT {I : Kn} {h h' : Heap} {T : Addr} (k : InH I h) (hT : I T = none) (h3 : I 93 = none) (keep : ∀ b o, b ≠ T → b ≠ 93 → h.get? b = some o → h'.get? b = some o) (tab : Tab I h') : GrowT T h I h' (frz I h h') where
  keep := keep
  tab := tab_keep tab (fun _ e => e) frz_le
  le := frz_le
  inh := fun b o e => by
    rcases frz_cases e with e | ⟨_, e⟩
    · exact keep _ _ (fun q => by rw [q, hT] at e; cases e) (fun q => by rw [q, h3] at e; cases e) (k _ _ e)
    · exact e
  new := fun b o e => (frz_cases e).imp id (·.1)
theorem frz_grow {P : Params} {I : Kn} {h h' : Heap} (k : Ok P I h) (keep : ∀ b o, h.get? b = some o → h'.get? b = some o) : Grow h I h' (frz I h h') where
  keep := fun b o _ e => keep b o e
  le := frz_le
  inh := fun b o e => by
    rcases frz_cases e with e | ⟨_, e⟩
    · exact keep _ _ (k.inh _ _ e)
    · exact e
  new := fun b o e => (frz_cases e).imp id (·.1)
  tab := tab_keep k.tab (fun _ e => keep _ _ e) frz_le

theorem GrowT.ok {P : Params} {T : Addr} {h h' : Heap} {I I' : Kn} (g : GrowT T h I h' I') (k : Ok P I h) : Ok P I' h' where
  inh := g.inh
  tab := g.tab
  t93 := by
    cases e : I' 93 with
    | none => rfl
    | some o =>
      rcases g.new _ _ e with e' | e'
      · rw [k.t93] at e'; cases e'
      · obtain ⟨o, x⟩ := tab_there k.tab; rw [x] at e'; cases e'
  prog := fun a o e h1 h2 h3 => g.le _ _ (k.prog a o e h1 h2 h3)

section
variable {prog : Program} {w : World} {A : Around} {E : Value → Shared → Prop} {s : Shared} {I : Kn}
-- a call of a def with one parameter that an inner def keeps
theorem enterC {fd : FuncData} {f : Addr} {o : Obj} {x : Str} {v : Value} {body : List Stmt} {Q : Value → Shared → Prop}
    (k : Ok w.params I s.heap) (hr : A.depth < recursionLimit) (ho : I f = some o) (hdata : o.data = .func fd) (hcd : CodeI I fd.code fd.qualname) (hbody : fd.body = .stmts body) (hbind : bindArgs fd ⟨[v], []⟩ = pure [(x, v)])
    (h : ∀ L h₁ tk, L = s.heap.objs.size → St w.params [93] s.heap I I L (fun _ => none) [(L + 1, cellO (some v))] h₁ →
      wpAny (model prog w) (A.deeper (envF fd f L))
        (execs body (envF fd f L))
        (fun fl s' => Q (match fl with | .ret v => v | _ => .none) s') NoE { s with heap := h₁, toks := tk })
    (hl : fd.scope.names.lookup x = some .cell := by rfl) (hmu : ∀ L, cellsM (L + 1) fd.scope.names [] = [(L + 1, cellO none)] := by intro _; rfl) (hc : ∀ L, (cellsFrom (L + 1) fd.scope.names fd.closure).lookup x = some (L + 1) := by intro _; rfl)
    (hco : fd.scope.isCoroutine = false := by rfl) (hgen : fd.scope.isGenerator = false := by rfl) (hk : fd.scope.kind = .function := by rfl) :
    wpAny (model prog w) A (call (.ref f) [v]) Q E s := by
  refine wpAny_call (codeAny_call_function hr (k.inh _ _ ho) hdata hco hgen hbody (hcd.rec k.inh) ?_)
  rw [hbind]
  refine wpAny_pure ?_
  have size1 : ∀ c : Value, ({ s with heap := s.heap.push { cls := c, data := .dict #[] } } : Shared).heap.objs.size = s.heap.objs.size + 1 := fun _ => Heap.size_push ..
  simp only [newFunctionEnv, Option.isSome_none, Bool.false_eq_true, if_false]
  refine wpAny_bind (wpAny_alloc ?_)
  refine wpAny_bind (wpAny_layCells _ (fun name kind cells => by cases hkc : kind == NameKind.cell <;> simp) _ _ _ _ ?_)
  rw [size1]
  have S0 : ∀ c : Value, St w.params [93] s.heap I I s.heap.objs.size (fun _ => none) [(s.heap.objs.size + 1, cellO none)] (pushCells (s.heap.push { cls := c, data := .dict #[] }) fd.scope.names) := fun c => by
    have := St.cells fd.scope.names _ _ (St.start (c := c) k)
    rw [Heap.size_push, hmu] at this
    exact this
  refine wpAny_bind ?_
  rw [List.forIn_cons]
  refine wpAny_bind (wpAny_bind (stCell (S0 _) (hc _) (fun h' S' => wpAny_pure ?_) hk (by exact hl)))
  dsimp only
  rw [List.forIn_nil]
  refine wpAny_pure (wpAny_pure ⟨nolimit S'.ok, codeAny_func ?_⟩)
  exact wpAny_mono (h _ h' _ rfl S') (fun _ _ x => x) fun _ _ f => f.elim

-- a class body's code
theorem wpAny_classCode {M : Model} {env : Env} {c P : Addr} {ps : Array Value} {pos : Pos} {firstLine : Nat} {name qualname : Str} {scope : Scope}
    {Q : Value → Shared → Prop} (hc : env.code = .ref c) (hok : s.heap.IsCode c P ps) (hnf : codeAmong pos ps.toList = none)
    (hQ : ∀ c' P' h' tk, Heap.ExtBut P s.heap h' → s.heap.objs.size ≤ c' → s.heap.objs.size ≤ P' → CodeHd h' c' P' → h'.get? P' = some (tabObj #[]) → (s.heap.get? P = some (tabObj ps) → h'.get? P = some (tabObj (ps ++ #[rawInt pos.line, rawInt pos.col, .ref c']))) →
      Q (.ref c') { s with heap := h', toks := tk }) :
    wpAny M A (classCode env pos firstLine name qualname scope) Q E s := by
  obtain ⟨o, vs, file, tf, flags, tg, inF, text, tt, op, ho, hd, h11, h2, h7, h9, h10, hop, hpd, htr, hne⟩ := id hok
  unfold classCode codeAt
  rw [hc, if_neg (show ¬ ((Value.ref c == Value.none) = true) from Bool.false_ne_true)]
  refine wpAny_bind (wpAny_fieldsOf ho hd ?_)
  rw [h11]
  refine wpAny_bind (wpAny_fieldsOf hop hpd ?_)
  rw [hnf, h2, h7, h9, h10]
  refine wpAny_bind (wpAny_newCodeX fun c' P' h' tk hk hc' hP' hcode' htab' hrec' => ?_)
  have hop' := hk _ _ hop
  refine wpAny_bind (wpAny_updateFieldsOfTheText hop' hpd ?_)
  have hnew : (Obj.mapFields (fun vs => if (codeAmong pos vs.toList).isSome = true then vs else vs ++ #[rawInt pos.line, rawInt pos.col, .ref c']) op).data =
      .fields (ps ++ #[rawInt pos.line, rawInt pos.col, .ref c']) := by
    rw [Obj.data_mapFields hpd, hnf]; rfl
  have hget := Heap.get?_update_self (h := h') (fun o => Obj.mapFields (fun vs => if (codeAmong pos vs.toList).isSome = true then vs else
    vs ++ #[rawInt pos.line, rawInt pos.col, .ref c']) o) hop' (Obj.isFreed_of_fields hnew)
  refine wpAny_bind (wpAny_fieldsOf hget hnew ?_)
  have hl : (ps ++ #[rawInt pos.line, rawInt pos.col, Value.ref c']).toList = ps.toList ++ [rawInt pos.line, rawInt pos.col, .ref c'] := by simp
  rw [hl, codeAmong_snoc _ htr hnf]
  have hcP : c' ≠ P := Nat.ne_of_gt (Nat.lt_of_lt_of_le (Heap.lt_size hop) hc')
  have hPP : P' ≠ P := Nat.ne_of_gt (Nat.lt_of_lt_of_le (Heap.lt_size hop) hP')
  have up : ∀ b o, b ≠ P → h'.get? b = some o → (h'.update P (fun o => Obj.mapFields (fun vs => if (codeAmong pos vs.toList).isSome = true then vs else vs ++ #[rawInt pos.line, rawInt pos.col, .ref c']) o)).get? b = some o := fun b o' hb e => (Heap.SameBut.update ..).extBut b o' hb e
  refine wpAny_pure (hQ _ P' _ _ (fun b o' hb e => up b o' hb (hk b o' e)) hc' hP' ?_ (up _ _ hPP htab'.2) (fun e => ?_))
  · exact CodeHd.of (hcode'.extBut (fun b o' hb e => up b o' hb e) hcP hPP) (htab'.extBut (fun b o' hb e => up b o' hb e) hcP hPP)
  · rw [hop] at e; cases e
    rw [hget]
    show some (tabObj (if (codeAmong pos ps.toList).isSome = true then ps else ps ++ #[rawInt pos.line, rawInt pos.col, .ref c'])) = _
    rw [hnf]; rfl

-- the text's own names as a namespace
theorem globs {P : Params} {h : Heap} (k : Ok P I h) : h.Ns 3 (h.nsMap 3) ∧ (∀ T, T ≠ 4 → h.BuiltinsAt (h.nsMap 3) T) ∧ ∃ v, h.nsMap 3 "__name__" = some v := by
  have e3 : h.get? 3 = some _ := k.inh _ _ (k.prog 3 _ (by rfl) (by decide) (by decide) (by decide))
  have e4 : h.get? 4 = some _ := k.inh _ _ (k.prog 4 _ (by rfl) (by decide) (by decide) (by decide))
  have n3 : h.isNs 3 = true := by unfold Heap.isNs; rw [e3]; kernel_rfl!
  refine ⟨Heap.Ns.of_isNs n3, fun T hT => ⟨4, _, ?_, by decide, by decide, Ne.symm hT, e4, by rfl, by rfl, by rfl⟩, ?_⟩
  · unfold Heap.nsMap; rw [e3]; kernel_rfl!
  · exact Option.isSome_iff_exists.mp (by unfold Heap.nsMap; rw [e3]; kernel_rfl!)
end
end Mine

-- part LClsA
set_option maxRecDepth 100000
set_option maxHeartbeats 0
set_option pp.deepTerms false
set_option pp.maxSteps 1500
namespace Mine
open PySem PySem.W PySem.W.X PyProof.Rows PySem.Calls

noncomputable def fdOfO : Option Obj → Option FuncData
  | some ⟨_, _, .func fd, _⟩ => some fd
  | _ => none
noncomputable def stmtsOf : FuncBody → List Stmt
  | .stmts b => b
  | _ => []
noncomputable def nth (l : List Stmt) (i : Nat) : Stmt := l.getD i (.Pass default)
noncomputable def bodyOf : Stmt → List Stmt
  | .ClassDef _ _ _ body _ _ _ _ _ _ _ => body
  | .FunctionDef _ _ body _ _ _ _ _ _ _ => body
  | _ => []
noncomputable def scopeOf : Stmt → Scope
  | .ClassDef _ _ _ _ _ _ sc _ _ _ _ => sc
  | .FunctionDef _ _ _ _ _ _ sc _ _ _ => sc
  | _ => default
noncomputable def posOf : Stmt → Pos
  | .ClassDef _ _ _ _ _ _ _ _ _ _ p => p
  | .FunctionDef _ _ _ _ _ _ _ _ _ p => p
  | _ => default
noncomputable def argsOf : Stmt → Arguments
  | .FunctionDef _ a _ _ _ _ _ _ _ _ => a
  | _ => { posonlyargs := [], args := [], vararg := none, kwonlyargs := [], kw_defaults := [], kwarg := none, defaults := [] }
-- statement i of the def at a
noncomputable def stAt (P : Params) (a : Addr) (i : Nat) : Stmt := nth (((fdOfO ((KK P).lookup a)).map fun fd => stmtsOf fd.body).getD []) i
noncomputable def kCls (P : Params) : Stmt := stAt P 21 0
noncomputable def kSt (P : Params) (i : Nat) : Stmt := nth (bodyOf (kCls P)) i
theorem kCls_eq (P : Params) : ∃ bp, kCls P = .ClassDef "K" [.Name "object" bp] [] (bodyOf (kCls P)) [] [] (scopeOf (kCls P)) none "K" ["obj"] (posOf (kCls P)) := ⟨_, by rfl⟩
theorem kBody_eq (P : Params) : bodyOf (kCls P) = [kSt P 0, kSt P 1, kSt P 2, kSt P 3, kSt P 4, kSt P 5, kSt P 6, kSt P 7, kSt P 8] := by rfl
noncomputable def mName : Nat → Str
  | 0 => "__init__"
  | 1 => "__lt__"
  | 2 => "__gt__"
  | 3 => "__eq__"
  | 4 => "__le__"
  | _ => "__ge__"
theorem six {p : Nat → Prop} (h0 : p 0) (h1 : p 1) (h2 : p 2) (h3 : p 3) (h4 : p 4) (h5 : p 5) : ∀ i, i < 6 → p i
  | 0, _ => h0
  | 1, _ => h1
  | 2, _ => h2
  | 3, _ => h3
  | 4, _ => h4
  | 5, _ => h5
theorem kDef_eq (P : Params) (i : Nat) (hi : i < 6) : kSt P (i + 2) = .FunctionDef (mName i) (argsOf (kSt P (i + 2))) (bodyOf (kSt P (i + 2))) [] none [] (scopeOf (kSt P (i + 2))) none (mName i) (posOf (kSt P (i + 2))) :=
  six (p := fun i => kSt P (i + 2) = .FunctionDef (mName i) (argsOf (kSt P (i + 2))) (bodyOf (kSt P (i + 2))) [] none [] (scopeOf (kSt P (i + 2))) none (mName i) (posOf (kSt P (i + 2)))) rfl rfl rfl rfl rfl rfl i hi

section
variable {prog : Program} {w : World} {A : Around} {E : Value → Shared → Prop} {s : Shared} {I : Kn}
theorem nsSetX {ns : Addr} {name : Str} {v : Value} {c : Value} {d : Option Addr} {es : Array DictEntry} {n : Nat} {sl : Array (Option Value)} {Q : Unit → Shared → Prop} (ho : s.heap.get? ns = some ⟨c, d, .dict es n, sl⟩) (ha : aRefKeyMayBeTheName name es = false)
    (h : Q () { s with heap := s.heap.update ns (Obj.putName name (hS w name) (.str name s.toks) v), toks := s.toks + 1 }) : wpAny (model prog w) A (nsSet ns name v) Q E s := by
  unfold nsSet
  refine wpAny_bind (m := strHash name) (Q := _) ?_
  show wpAny (model prog w) A (strHash name) _ _ _
  have hh : ∀ (Q' : Int → Shared → Prop), Q' (hS w name) s → wpAny (model prog w) A (strHash name) Q' E s := fun Q' hq Γ p _ => hq
  refine hh _ ?_
  refine wpAny_bind (wpAny_mkText (wpAny_bind (wpAny_loadPart ho ?_)))
  dsimp only
  rw [ha]
  exact wpAny_updatePart ho h
-- the class body's names
noncomputable def cenv (P : Params) (nsA c F cell : Addr) : Env :=
  { scope := scopeOf (kCls P), locals := nsA, globals := 3, qual := "cmp_to_key.<locals>.K.", code := .ref c, frame := some F, builtins := 0, cells := [("mycmp", cell)] }
theorem stK {P : Params} {h : Heap} {g : Array GenState} {d : Drawn} {t : Nat} {os : OsState} {nsA c F cell : Addr} {name : Str} {v : Value} {es es' : List DictEntry} {n n' : Nat} {Q : Unit → Shared → Prop} (hns : h.get? nsA = some (dictOf es n))
    (hst : storeName (cenv P nsA c F cell) name v = localSet (cenv P nsA c F cell) name v) (ha : aRefKeyMayBeTheName name es.toArray = false)
    (hp : Obj.putName name (hS w name) (.str name t) v (dictOf es n) = dictOf es' n')
    (hq : ∀ h', h'.get? nsA = some (dictOf es' n') → Heap.SameBut nsA h h' → Q () ⟨h', g, d, t + 1, os⟩) :
    wpAny (model prog w) A (storeName (cenv P nsA c F cell) name v) Q E ⟨h, g, d, t, os⟩ := by
  rw [hst]
  unfold localSet
  refine wpAny_bind (wpAny_load (a := nsA) hns ?_)
  show wpAny _ _ (if ((Value.type "dict" == Value.type "dict") = true) then _ else _) _ _ _
  rw [if_pos (by rfl)]
  refine nsSetX (ns := nsA) hns ha (hq _ ?_ (Heap.SameBut.update ..))
  rw [← hp]
  exact Heap.get?_update_self _ hns (by rw [hp]; rfl)
end
end Mine

-- part LClsB
set_option maxRecDepth 100000
set_option maxHeartbeats 0
set_option pp.deepTerms false
set_option pp.maxSteps 1500
namespace Mine
open PySem PySem.W PySem.W.X PyProof.Rows PySem.Calls
section
variable {prog : Program} {w : World} {A : Around} {E : Value → Shared → Prop} {s : Shared} {I : Kn}
noncomputable abbrev kQual (i : Nat) : Str := "cmp_to_key.<locals>.K." ++ mName i
noncomputable def kClos (i : Nat) (cell : Addr) : List (Str × Addr) := match i with
  | 0 => []
  | _ => [("mycmp", cell)]
-- what stays known of the body's state
structure CBase (h : Heap) (nsA Pk c : Addr) (mg : Str → Option Value) : Prop where
  hd : CodeHd h c Pk
  gl : h.Ns 3 mg
  bmg : mg "__builtins__" = some (.ref 4)
  bi : h.BuiltinsAt mg Pk
  ne1 : nsA ≠ Pk
  ne2 : nsA ≠ 3
  ne3 : Pk ≠ 3
  ne4 : nsA ≠ c
  ne5 : Pk ≠ c
  ne6 : nsA ≠ 4
def keepB (nsA Pk : Addr) (h h' : Heap) : Prop := ∀ b o, b ≠ nsA → b ≠ Pk → h.get? b = some o → h'.get? b = some o
theorem keepB.trans {nsA Pk : Addr} {h h' h'' : Heap} (a : keepB nsA Pk h h') (b : keepB nsA Pk h' h'') : keepB nsA Pk h h'' := fun x o n1 n2 e => b x o n1 n2 (a x o n1 n2 e)
theorem CBase.keep {h h' : Heap} {nsA Pk c : Addr} {mg : Str → Option Value} (x : CBase h nsA Pk c mg) (k : keepB nsA Pk h h') : CBase h' nsA Pk c mg where
  hd := by
    obtain ⟨o, vs, file, tf, flags, tg, inF, text, tt, e, r⟩ := x.hd
    exact ⟨o, vs, file, tf, flags, tg, inF, text, tt, k _ _ (Ne.symm x.ne4) (Ne.symm x.ne5) e, r⟩
  gl := by
    obtain ⟨o, es, ep, e, r⟩ := x.gl
    exact ⟨o, es, ep, k _ _ (Ne.symm x.ne2) (Ne.symm x.ne3) e, r⟩
  bmg := x.bmg
  bi := by
    obtain ⟨bm, o, e, a, b, c, d, r⟩ := x.bi
    have : bm = 4 := by have := x.bmg; rw [this] at e; cases e; rfl
    subst this
    exact ⟨4, o, e, a, b, c, k _ _ (Ne.symm x.ne6) c d, r⟩
  ne1 := x.ne1
  ne2 := x.ne2
  ne3 := x.ne3
  ne4 := x.ne4
  ne5 := x.ne5
  ne6 := x.ne6
-- the method's object
noncomputable abbrev kFn (P : Params) (i : Nat) (cell : Addr) (doc pm : Value) (c' : Addr) (ctv : Value) : Obj :=
  fnMade (mName i) (kQual i) (argsOf (kSt P (i + 2))) (bodyOf (kSt P (i + 2))) (scopeOf (kSt P (i + 2))) (kClos i cell) doc pm c' ctv
theorem defK {P : Params} {h : Heap} {g : Array GenState} {d : Drawn} {t : Nat} {os : OsState} {nsA Pk c F cell : Addr} {mg : Str → Option Value} {es : List DictEntry} {n : Nat} {ps : List Value} {Q : Flow → Shared → Prop} (i : Nat) (hi : i < 6) (ln cl : Int) (hln : ((posOf (kSt P (i + 2))).line : Int) = ln) (hcl : ((posOf (kSt P (i + 2))).col : Int) = cl) (B : CBase h nsA Pk c mg)
    (hns : h.get? nsA = some (dictOf es n)) (htb : h.get? Pk = some (tabObj ps.toArray)) (ht : TriplesOk ps) (hnf : codeAmong (posOf (kSt P (i + 2))) ps = none)
    (ha : aRefKeyMayBeTheName (mName i) es.toArray = false)
    (hp : ∀ t f, Obj.putName (mName i) (hS w (mName i)) (.str (mName i) t) (.ref f) (dictOf es n) = dictOf (es ++ [⟨hS w (mName i), .str (mName i) t, .ref f⟩]) (n + 1))
    (hQ : ∀ f c' ctv doc t h' tk, keepB nsA Pk h h' → h.get? f = none → h'.get? nsA = some (dictOf (es ++ [⟨hS w (mName i), .str (mName i) t, .ref f⟩]) (n + 1)) →
      h'.get? Pk = some (tabObj (ps ++ [rawInt ln, rawInt cl, .ref c']).toArray) → TriplesOk (ps ++ [rawInt ln, rawInt cl, .ref c']) → h'.get? f = some (kFn P i cell doc ((mg "__name__").getD .none) c' ctv) →
      h.get? c' = none → (∃ o vs t, h'.get? c' = some o ∧ o.data = .fields vs ∧ vs[1]? = some (.str (kQual i) t)) → Q .next ⟨h', g, d, tk, os⟩) :
    wpAny (model prog w) A (exec (kSt P (i + 2)) (cenv P nsA c F cell)) Q E ⟨h, g, d, t, os⟩ := by
  rw [kDef_eq P i hi]
  have h1 : (argsOf (kSt P (i + 2))).defaults = [] ∧ (argsOf (kSt P (i + 2))).kw_defaults = [] ∧ annTrees (argsOf (kSt P (i + 2))) none (cenv P nsA c F cell) = [] ∧ qualnameIn (cenv P nsA c F cell) (mName i) (mName i) = kQual i ∧
      closureFor (scopeOf (kSt P (i + 2))) (cenv P nsA c F cell) = pure (kClos i cell) ∧ ∀ v, storeName (cenv P nsA c F cell) (mName i) v = localSet (cenv P nsA c F cell) (mName i) v := by
    refine six (p := fun i => (argsOf (kSt P (i + 2))).defaults = [] ∧ (argsOf (kSt P (i + 2))).kw_defaults = [] ∧ annTrees (argsOf (kSt P (i + 2))) none (cenv P nsA c F cell) = [] ∧ qualnameIn (cenv P nsA c F cell) (mName i) (mName i) = kQual i ∧
      closureFor (scopeOf (kSt P (i + 2))) (cenv P nsA c F cell) = pure (kClos i cell) ∧ ∀ v, storeName (cenv P nsA c F cell) (mName i) v = localSet (cenv P nsA c F cell) (mName i) v) ?_ ?_ ?_ ?_ ?_ ?_ i hi
    all_goals exact ⟨rfl, rfl, rfl, rfl, rfl, fun _ => rfl⟩
  obtain ⟨a1, a2, a3, a4, a5, a6⟩ := h1
  subst hln hcl
  refine nestDef_K a1 a2 a3 ?_
  rw [a4]
  refine makeFunction_K (mg := mg) (P := Pk) (ps := ps.toArray) a5 rfl B.gl rfl B.hd htb ht hnf (Ne.symm B.ne3) B.bi fun c' ctv doc h' tk hx hge hlt hrec hP => ?_
  dsimp only at hx hge
  have hf : h.get? h'.objs.size = none := Heap.get?_none_of_le (Nat.le_trans hge (Nat.le_of_lt hlt))
  have hc0 : h.get? c' = none := Heap.get?_none_of_le hge
  have hns' : h'.get? nsA = some (dictOf es n) := hx _ _ B.ne1 hns
  have nef : h'.objs.size ≠ nsA := Nat.ne_of_gt (Heap.lt_size hns')
  have nec : c' ≠ nsA := fun e => by rw [e, hns] at hc0; cases hc0
  have neP : h'.objs.size ≠ Pk := Nat.ne_of_gt (Heap.lt_size hP)
  refine stK (es' := es ++ [⟨hS w (mName i), .str (mName i) tk, .ref h'.objs.size⟩]) (n' := n + 1) (Heap.get?_push_of_some _ hns') (a6 _) ha (hp _ _) fun h'' e1 e2 => ?_
  obtain ⟨c₂, o, vs, t, q1, q2, q3, q4⟩ := hrec
  cases q1
  refine hQ h'.objs.size c' ctv doc tk h'' _ (fun b o n1 n2 e => (e2.2 b n1).trans (Heap.get?_push_of_some _ (hx b o n2 e))) hf e1 ((e2.2 _ (Ne.symm B.ne1)).trans (Heap.get?_push_of_some _ (by rw [hP]; simp))) (TriplesOk_snoc _ _ _ _ ht) ((e2.2 _ nef).trans (Heap.get?_push_size _ rfl)) hc0
    ⟨o, vs, t, (e2.2 _ nec).trans (Heap.get?_push_of_some _ q2), q3, q4⟩
end
end Mine

-- part LClsC
set_option maxRecDepth 100000
set_option maxHeartbeats 0
set_option pp.deepTerms false
set_option pp.maxSteps 1500
namespace Mine
open PySem PySem.W PySem.W.X PyProof.Rows PySem.Calls
section
variable {prog : Program} {w : World} {A : Around} {E : Value → Shared → Prop} {s : Shared} {I : Kn}
noncomputable def nmA : Nat → Str
  | 1 => "__module__"
  | 2 => "__qualname__"
  | 3 => "__firstlineno__"
  | 4 => "__slots__"
  | 5 => "__init__"
  | 6 => "__lt__"
  | 7 => "__gt__"
  | 8 => "__eq__"
  | 9 => "__le__"
  | 10 => "__ge__"
  | 11 => "__hash__"
  | _ => "__static_attributes__"
noncomputable abbrev eA (w : World) (i : Nat) : Int := hS w (nmA i)
noncomputable abbrev ent3 (w : World) (k1 k2 k3 : Tok) (v1 v2 v3 : Value) : List DictEntry := [⟨eA w 1, .str "__module__" k1, v1⟩, ⟨eA w 2, .str "__qualname__" k2, v2⟩, ⟨eA w 3, .str "__firstlineno__" k3, v3⟩]
noncomputable abbrev ent11 (w : World) (k : Nat → Tok) (v2 v3 : Value) (u1 : Tok) (sl : Addr) (f : Nat → Addr) : List DictEntry :=
  [⟨eA w 1, .str "__module__" (k 1), .str "cpy313.functools" u1⟩, ⟨eA w 2, .str "__qualname__" (k 2), v2⟩, ⟨eA w 3, .str "__firstlineno__" (k 3), v3⟩, ⟨eA w 4, .str "__slots__" (k 4), .ref sl⟩,
   ⟨eA w 5, .str "__init__" (k 5), .ref (f 0)⟩, ⟨eA w 6, .str "__lt__" (k 6), .ref (f 1)⟩, ⟨eA w 7, .str "__gt__" (k 7), .ref (f 2)⟩, ⟨eA w 8, .str "__eq__" (k 8), .ref (f 3)⟩, ⟨eA w 9, .str "__le__" (k 9), .ref (f 4)⟩, ⟨eA w 10, .str "__ge__" (k 10), .ref (f 5)⟩, ⟨eA w 11, .str "__hash__" (k 11), .none⟩]
noncomputable def asA : Stmt → Pos
  | .Assign [.Name _ p] _ _ => p
  | _ => default
noncomputable def asB : Stmt → Pos
  | .Assign _ (.Constant _ _ p) _ => p
  | .Assign _ (.List [.Constant _ _ p] _) _ => p
  | _ => default
noncomputable def asC : Stmt → Pos
  | .Assign _ _ p => p
  | _ => default
noncomputable def asD : Stmt → Pos
  | .Assign _ (.List _ p) _ => p
  | _ => default
theorem kSt0 (P : Params) : ∃ a b c, kSt P 0 = .Assign [.Name "__module__" a] (.Constant (.str "cpy313.functools") 0 b) c := ⟨asA (kSt P 0), asB (kSt P 0), asC (kSt P 0), by kernel_rfl!⟩
theorem kSt1 (P : Params) : ∃ a b c d, kSt P 1 = .Assign [.Name "__slots__" a] (.List [.Constant (.str "obj") 0 b] c) d := ⟨asA (kSt P 1), asB (kSt P 1), asD (kSt P 1), asC (kSt P 1), by kernel_rfl!⟩
theorem kSt8 (P : Params) : ∃ a b c, kSt P 8 = .Assign [.Name "__hash__" a] (.Constant .none 0 b) c := ⟨asA (kSt P 8), asB (kSt P 8), asC (kSt P 8), by kernel_rfl!⟩
structure KFns (P : Params) (h₀ h : Heap) (cell : Addr) (pm : Value) (f : Nat → Addr) : Prop where
  at_ : ∀ i, i < 6 → ∃ doc ctv c' o vs t, h.get? (f i) = some (kFn P i cell doc pm c' ctv) ∧ h₀.get? (f i) = none ∧ h₀.get? c' = none ∧ h.get? c' = some o ∧ o.data = .fields vs ∧ vs[1]? = some (.str (kQual i) t)
theorem bodyK {P : Params} {h : Heap} {g : Array GenState} {d : Drawn} {t : Nat} {os : OsState} {nsA Pk c F cell : Addr} {mg : Str → Option Value} {k1 k2 k3 : Tok} {v1 v2 v3 : Value} {n : Nat} {Q : Flow → Shared → Prop} (B : CBase h nsA Pk c mg)
    (hns : h.get? nsA = some (dictOf (ent3 w k1 k2 k3 v1 v2 v3) n)) (htb : h.get? Pk = some (tabObj #[]))
    (hQ : ∀ (k : Nat → Tok) (u1 t0 : Tok) (sl : Addr) (f : Nat → Addr) (h' : Heap) (n' tk : Nat), keepB nsA Pk h h' →
      h'.get? nsA = some (dictOf (ent11 w k v2 v3 u1 sl f) n') →
      h'.get? sl = some (listO [.str "obj" t0] 0) → h.get? sl = none → (∃ o, h'.get? Pk = some o) → KFns P h h' cell ((mg "__name__").getD .none) f → Q .next ⟨h', g, d, tk, os⟩) :
    wpAny (model prog w) A (execs (bodyOf (kCls P)) (cenv P nsA c F cell)) Q E ⟨h, g, d, t, os⟩ := by
  rw [kBody_eq]
  obtain ⟨p1, p2, p3, e0⟩ := kSt0 P
  obtain ⟨p4, p5, p6, p7, e1⟩ := kSt1 P
  obtain ⟨p8, p9, p10, e8⟩ := kSt8 P
  rw [e0, e1, e8]
  refine wpAny_execs_cons (wpAny_Assign_Name (wpAny_Constant_str ?_) (by kernel_rfl!))
  refine stK (es := ent3 w k1 k2 k3 v1 v2 v3) (es' := ent3 w k1 k2 k3 (.str "cpy313.functools" t) v2 v3) (n' := n) hns (by kernel_rfl!) (by kernel_rfl!) (by kernel_rfl!) fun h1 n1 s1 => ?_
  have kb1 : keepB nsA Pk h h1 := fun b o a _ e => (s1.2 b a).trans e
  have t1 : h1.get? Pk = some (tabObj #[]) := (s1.2 _ (Ne.symm B.ne1)).trans htb
  refine wpAny_execs_cons (wpAny_Assign_Name (wpAny_List (spliced_more (wpAny_Constant_str (spliced_none ⟨by show 1 ≤ sizeLine; decide, ?_⟩)))) (by kernel_rfl!))
  have n1' := Heap.get?_push_of_some (listO [.str "obj" (t + 1 + 1)] 0) n1
  refine stK (h := h1.push (listO [.str "obj" (t + 1 + 1)] 0)) (g := g) (d := d) (t := t + 1 + 1 + 1) (os := os) (es := ent3 w k1 k2 k3 (.str "cpy313.functools" t) v2 v3) (es' := ent3 w k1 k2 k3 (.str "cpy313.functools" t) v2 v3 ++ [⟨eA w 4, .str "__slots__" (t + 1 + 1 + 1), .ref h1.objs.size⟩]) (n' := n + 1) n1' (by kernel_rfl!) (by kernel_rfl!) (by kernel_rfl!) fun h2 n2 s2 => ?_
  have nsl : h1.objs.size ≠ nsA := Nat.ne_of_gt (Heap.lt_size n1)
  have nsP : h1.objs.size ≠ Pk := Nat.ne_of_gt (Heap.lt_size t1)
  have slf : h.get? h1.objs.size = none := by
    cases q : h.get? h1.objs.size with
    | none => rfl
    | some o => exact absurd (Heap.lt_size ((s1.2 _ nsl).trans q)) (Nat.lt_irrefl _)
  have sl2 : h2.get? h1.objs.size = some (listO [.str "obj" (t + 1 + 1)] 0) := (s2.2 _ nsl).trans (Heap.get?_push_size _ rfl)
  have kb2 : keepB nsA Pk h h2 := fun b o a c e => (s2.2 b a).trans (Heap.get?_push_of_some _ (kb1 b o a c e))
  have B2 := B.keep kb2
  have t2 : h2.get? Pk = some (tabObj ([] : List Value).toArray) := (s2.2 _ (Ne.symm B.ne1)).trans (Heap.get?_push_of_some _ t1)
  clear s1 s2 kb1 t1 n1 n1'
  have T0 : TriplesOk [] := ⟨⟩
  have fresh : ∀ (h' : Heap) (b : Addr) (es : List DictEntry) (nn : Nat) (ps : List Value), keepB nsA Pk h h' → h'.get? nsA = some (dictOf es nn) → h'.get? Pk = some (tabObj ps.toArray) → h'.get? b = none → h.get? b = none ∧ b ≠ nsA ∧ b ≠ Pk := by
    intro h' b es nn ps kb na pa e
    have z1 : b ≠ nsA := fun z => by rw [z, na] at e; cases e
    have z2 : b ≠ Pk := fun z => by rw [z, pa] at e; cases e
    refine ⟨?_, z1, z2⟩
    cases q : h.get? b with
    | none => rfl
    | some o => rw [kb b o z1 z2 q] at e; cases e
  refine wpAny_execs_cons (defK 0 (by decide) 8 8 (by kernel_rfl!) (by kernel_rfl!) B2 n2 t2 T0 (by kernel_rfl!) (by kernel_rfl!) (fun _ _ => by kernel_rfl!) ?_)
  intro f0 c0 ctv0 doc0 tt0 h3 tk3 kk0 ff0 n3 t3 T1 g0 fc0 cd0
  have B3 := B2.keep kk0
  have kb3 := kb2.trans kk0
  have fr0 := fresh _ _ _ _ _ kb2 n2 t2 ff0
  have fs0 := fresh _ _ _ _ _ kb2 n2 t2 fc0
  refine wpAny_execs_cons (defK 1 (by decide) 11 8 (by kernel_rfl!) (by kernel_rfl!) B3 n3 t3 T1 (by kernel_rfl!) (by kernel_rfl!) (fun _ _ => by kernel_rfl!) ?_)
  intro f1 c1 ctv1 doc1 tt1 h4 tk4 kk1 ff1 n4 t4 T2 g1 fc1 cd1
  have B4 := B3.keep kk1
  have kb4 := kb3.trans kk1
  have fr1 := fresh _ _ _ _ _ kb3 n3 t3 ff1
  have fs1 := fresh _ _ _ _ _ kb3 n3 t3 fc1
  refine wpAny_execs_cons (defK 2 (by decide) 14 8 (by kernel_rfl!) (by kernel_rfl!) B4 n4 t4 T2 (by kernel_rfl!) (by kernel_rfl!) (fun _ _ => by kernel_rfl!) ?_)
  intro f2 c2 ctv2 doc2 tt2 h5 tk5 kk2 ff2 n5 t5 T3 g2 fc2 cd2
  have B5 := B4.keep kk2
  have kb5 := kb4.trans kk2
  have fr2 := fresh _ _ _ _ _ kb4 n4 t4 ff2
  have fs2 := fresh _ _ _ _ _ kb4 n4 t4 fc2
  refine wpAny_execs_cons (defK 3 (by decide) 17 8 (by kernel_rfl!) (by kernel_rfl!) B5 n5 t5 T3 (by kernel_rfl!) (by kernel_rfl!) (fun _ _ => by kernel_rfl!) ?_)
  intro f3 c3 ctv3 doc3 tt3 h6 tk6 kk3 ff3 n6 t6 T4 g3 fc3 cd3
  have B6 := B5.keep kk3
  have kb6 := kb5.trans kk3
  have fr3 := fresh _ _ _ _ _ kb5 n5 t5 ff3
  have fs3 := fresh _ _ _ _ _ kb5 n5 t5 fc3
  refine wpAny_execs_cons (defK 4 (by decide) 20 8 (by kernel_rfl!) (by kernel_rfl!) B6 n6 t6 T4 (by kernel_rfl!) (by kernel_rfl!) (fun _ _ => by kernel_rfl!) ?_)
  intro f4 c4 ctv4 doc4 tt4 h7 tk7 kk4 ff4 n7 t7 T5 g4 fc4 cd4
  have B7 := B6.keep kk4
  have kb7 := kb6.trans kk4
  have fr4 := fresh _ _ _ _ _ kb6 n6 t6 ff4
  have fs4 := fresh _ _ _ _ _ kb6 n6 t6 fc4
  refine wpAny_execs_cons (defK 5 (by decide) 23 8 (by kernel_rfl!) (by kernel_rfl!) B7 n7 t7 T5 (by kernel_rfl!) (by kernel_rfl!) (fun _ _ => by kernel_rfl!) ?_)
  intro f5 c5 ctv5 doc5 tt5 h8 tk8 kk5 ff5 n8 t8 T6 g5 fc5 cd5
  have B8 := B7.keep kk5
  have kb8 := kb7.trans kk5
  have fr5 := fresh _ _ _ _ _ kb7 n7 t7 ff5
  have fs5 := fresh _ _ _ _ _ kb7 n7 t7 fc5
  refine wpAny_execs_cons (wpAny_Assign_Name (wpAny_Constant_none ?_) (by kernel_rfl!))
  refine stK (es' := ent11 w (fun i => match i with | 1 => k1 | 2 => k2 | 3 => k3 | 4 => t + 1 + 1 + 1 | 5 => tt0 | 6 => tt1 | 7 => tt2 | 8 => tt3 | 9 => tt4 | 10 => tt5 | _ => tk8) v2 v3 t h1.objs.size (fun i => match i with | 0 => f0 | 1 => f1 | 2 => f2 | 3 => f3 | 4 => f4 | _ => f5)) (n' := n + 1 + 1 + 1 + 1 + 1 + 1 + 1 + 1) n8 (by kernel_rfl!) (by kernel_rfl!) (by kernel_rfl!) fun h9 n9 s9 => ?_
  have kk6 : keepB nsA Pk h8 h9 := fun b o a _ e => (s9.2 b a).trans e
  have up8 : keepB nsA Pk h8 h9 := kk6
  have up7 : keepB nsA Pk h7 h9 := kk5.trans up8
  have up6 : keepB nsA Pk h6 h9 := kk4.trans up7
  have up5 : keepB nsA Pk h5 h9 := kk3.trans up6
  have up4 : keepB nsA Pk h4 h9 := kk2.trans up5
  have up3 : keepB nsA Pk h3 h9 := kk1.trans up4
  have up2 : keepB nsA Pk h2 h9 := kk0.trans up3
  refine wpAny_execs_nil ?_
  refine hQ _ t (t + 1 + 1) h1.objs.size _ h9 _ _ (kb2.trans up2) n9 (up2 _ _ nsl nsP sl2) slf ⟨_, (s9.2 _ (Ne.symm B.ne1)).trans t8⟩ ⟨fun i hi => ?_⟩
  match i, hi with
  | 0, _ => obtain ⟨o, vs, t, q1, q2, q3⟩ := cd0; exact ⟨doc0, ctv0, c0, o, vs, t, up3 _ _ fr0.2.1 fr0.2.2 g0, fr0.1, fs0.1, up3 _ _ fs0.2.1 fs0.2.2 q1, q2, q3⟩
  | 1, _ => obtain ⟨o, vs, t, q1, q2, q3⟩ := cd1; exact ⟨doc1, ctv1, c1, o, vs, t, up4 _ _ fr1.2.1 fr1.2.2 g1, fr1.1, fs1.1, up4 _ _ fs1.2.1 fs1.2.2 q1, q2, q3⟩
  | 2, _ => obtain ⟨o, vs, t, q1, q2, q3⟩ := cd2; exact ⟨doc2, ctv2, c2, o, vs, t, up5 _ _ fr2.2.1 fr2.2.2 g2, fr2.1, fs2.1, up5 _ _ fs2.2.1 fs2.2.2 q1, q2, q3⟩
  | 3, _ => obtain ⟨o, vs, t, q1, q2, q3⟩ := cd3; exact ⟨doc3, ctv3, c3, o, vs, t, up6 _ _ fr3.2.1 fr3.2.2 g3, fr3.1, fs3.1, up6 _ _ fs3.2.1 fs3.2.2 q1, q2, q3⟩
  | 4, _ => obtain ⟨o, vs, t, q1, q2, q3⟩ := cd4; exact ⟨doc4, ctv4, c4, o, vs, t, up7 _ _ fr4.2.1 fr4.2.2 g4, fr4.1, fs4.1, up7 _ _ fs4.2.1 fs4.2.2 q1, q2, q3⟩
  | 5, _ => obtain ⟨o, vs, t, q1, q2, q3⟩ := cd5; exact ⟨doc5, ctv5, c5, o, vs, t, up8 _ _ fr5.2.1 fr5.2.2 g5, fr5.1, fs5.1, up8 _ _ fs5.2.1 fs5.2.2 q1, q2, q3⟩
end
end Mine

-- part LClsD
set_option maxRecDepth 100000
set_option maxHeartbeats 0
set_option pp.deepTerms false
set_option pp.maxSteps 1500
namespace Mine
open PySem PySem.W PySem.W.X PyProof.Rows PySem.Calls
section
variable {prog : Program} {w : World} {A : Around} {E : Value → Shared → Prop} {s : Shared} {I : Kn}
noncomputable abbrev prepO : Obj := { cls := .type "builtin_function_or_method", data := .fields #[.builtin "type.__prepare__", .type "type"] }
theorem pb_end {h0 h : Heap} {g : Array GenState} {d : Drawn} {t : Nat} {os : OsState} {news : List (Addr × Obj)} {a : Addr} (o : Obj) (D : Mem h0 h [] news) (hm : (a, o) ∈ news) :
    ∃ h' tk b, (⟨h, g, d, t, os⟩ : Shared) = ⟨h', g, d, tk, os⟩ ∧ (∀ b o, h0.get? b = some o → h'.get? b = some o) ∧ Value.ref a = .ref b ∧ h0.get? b = none ∧ h'.get? b = some o :=
  ⟨h, t, a, rfl, fun _ _ e => D.keep _ _ e (by simp [away]), rfl, (D.nw _ hm).2, (D.nw _ hm).1⟩
local macro_rules | `(tactic| x_close) => `(tactic| exact pb_end _ (by assumption) (.head _))
theorem prepB {h : Heap} {g : Array GenState} {d : Drawn} {t : Nat} {os : OsState} {tk : Tok} (r : Room A 10) :
    wpAny (model prog w) A (call (.builtin "type.__getattribute__") [.type "type", .str "__prepare__" tk]) (fun v s' => ∃ h' tk a, s' = ⟨h', g, d, tk, os⟩ ∧ (∀ b o, h.get? b = some o → h'.get? b = some o) ∧ v = .ref a ∧ h.get? a = none ∧ h'.get? a = some prepO) NoE ⟨h, g, d, t, os⟩ := by
  refine wpAny_up (d := 890) (u := 8900) r (by decide) (by decide) ?_
  x_run
theorem prepC {h : Heap} {g : Array GenState} {d : Drawn} {t : Nat} {os : OsState} {f bt : Addr} {tN : Tok} (r : Room A 10) (hf : h.get? f = some { cls := .type "builtin_function_or_method", data := .fields #[.builtin "type.__prepare__", .type "type"] }) :
    wpAny (model prog w) A (call (.ref f) [.str "K" tN, .ref bt]) (fun v s' => ∃ h' tk a, s' = ⟨h', g, d, tk, os⟩ ∧ (∀ b o, h.get? b = some o → h'.get? b = some o) ∧ v = .ref a ∧ h.get? a = none ∧ h'.get? a = some (dictOf [] 0)) NoE ⟨h, g, d, t, os⟩ := by
  refine wpAny_up (d := 890) (u := 8900) r (by decide) (by decide) ?_
  x_run
end
section
variable {prog : Program} {w : World} {A : Around} {E : Value → Shared → Prop} {s : Shared} {I : Kn}


theorem q_ty_ga : typeLookup (.type "type") "__getattribute__" = pure (some (.builtin "type.__getattribute__")) := by kernel_rfl!
theorem prepA {h : Heap} {g : Array GenState} {d : Drawn} {t : Nat} {os : OsState} {Q : Option Value → Shared → Prop} (r : Room A 10)
    (hq : ∀ h' tk a, (∀ b o, h.get? b = some o → h'.get? b = some o) → h.get? a = none → h'.get? a = some prepO → Q (some (.ref a)) ⟨h', g, d, tk, os⟩) :
    wpAny (model prog w) A (getAttr? (.type "type") "__prepare__") Q E ⟨h, g, d, t, os⟩ := by
  have D := Mem.start h
  repeat (first | with_reducible refine Mine.nd_tryCatch ?_ | with_reducible refine wpAny_holding ?_ | k_unfold | (with_reducible refine wpAny_bind ?_; k_fold) | (with_reducible refine nd_bind ?_; k_fold) | with_reducible refine wpAny_holding ?_ | with_reducible refine wpAny_keep ?_ | (with_reducible refine wpAny_onRaise ?_; k_fold) | (with_reducible refine wpAny_tryCatch ?_; k_fold) | (with_reducible refine Mine.nd_tryCatch ?_; k_fold) | (with_reducible refine wpAny_attempt ?_; k_fold) | (with_reducible refine Mine.m_load (by first | exact PySem.W.X.Mem.at (by assumption) 0 _ _ rfl | exact PySem.W.X.Mem.at (by assumption) 1 _ _ rfl | exact PySem.W.X.Mem.at (by assumption) 2 _ _ rfl | exact PySem.W.X.Mem.at (by assumption) 3 _ _ rfl | exact PySem.W.X.Mem.old (by assumption) _ _ (by assumption) rfl) ?_) | ((with_reducible show wpAny _ _ (Sem.update _ _ _ _) _ _ _); first | (refine Mine.m_update (by assumption) 0 rfl _ rfl rfl ?_; intro _ _) | (refine Mine.m_update (by assumption) 1 rfl _ rfl rfl ?_; intro _ _) | (refine Mine.m_update (by assumption) 2 rfl _ rfl rfl ?_; intro _ _) | (refine Mine.m_update (by assumption) 3 rfl _ rfl rfl ?_; intro _ _)) | (first | ((with_reducible show wpAny _ _ (isSubtype _ _) _ _ _); first | refine wpAny_of_eq (Mine.q_sub_tuple) ?_ | refine wpAny_of_eq (Mine.q_sub_dict) ?_ | refine wpAny_of_eq (Mine.q_sub_type) ?_) | ((with_reducible show wpAny _ _ (typeOf (Value.type _)) _ _ _); first | refine wpAny_of_eq (Mine.q_ty_object) ?_) | ((with_reducible show wpAny _ _ (typeLookup (Value.type _) _) _ _ _); first | refine wpAny_of_eq (Mine.q_dict_iter) ?_ | refine wpAny_of_eq (Mine.q_sn_function) ?_ | refine wpAny_of_eq (Mine.q_sn_str) ?_ | refine wpAny_of_eq (Mine.q_sn_list) ?_ | refine wpAny_of_eq (Mine.q_sn_int) ?_ | refine wpAny_of_eq (Mine.q_sn_tuple) ?_ | refine wpAny_of_eq (Mine.q_sn_none) ?_ | refine wpAny_of_eq (Mine.q_sn_md) ?_) | ((with_reducible show wpAny _ _ (Builtin.extendedBase _) _ _ _); first | refine wpAny_of_eq (Mine.q_ext) ?_) | ((with_reducible show wpAny _ _ (Builtin.mroHook? _) _ _ _); first | refine wpAny_of_eq (Mine.q_hook) ?_) | ((with_reducible show wpAny _ _ (Builtin.Slots.givesWeak _) _ _ _); first | refine wpAny_of_eq (Mine.q_weak) ?_) | ((with_reducible show wpAny _ _ (Builtin.Slots.givesDict _) _ _ _); first | refine wpAny_of_eq (Mine.q_gdict) ?_) | ((with_reducible show wpAny _ _ (Builtin.Slots.varSize _) _ _ _); first | refine wpAny_of_eq (Mine.q_var) ?_) | ((with_reducible show wpAny _ _ (Builtin.Slots.bestBase _) _ _ _); first | refine wpAny_of_eq (Mine.q_best) ?_) | ((with_reducible show wpAny _ _ (Builtin.linearize _ _) _ _ _); first | refine wpAny_of_eq (Mine.q_lin) ?_) | ((with_reducible show wpAny _ _ (Bind.madeBy _) _ _ _); first | refine wpAny_of_eq (Mine.q_made) ?_) | ((with_reducible show wpAny _ _ (Builtin.notOverATurnedClass _) _ _ _); first | refine wpAny_of_eq (Mine.q_turned) ?_) | ((with_reducible show wpAny _ _ (Builtin.noteSubclassOfBuiltin _ _) _ _ _); first | refine wpAny_of_eq (Mine.q_note _) ?_) | ((with_reducible show wpAny _ _ (Builtin.Slots.slotNamesOf _) _ _ _); first | refine wpAny_of_eq (Mine.q_slotNames) ?_) | ((with_reducible show wpAny _ _ (classOwn (Value.type _) _) _ _ _); first | refine wpAny_of_eq (Mine.q_own_new) ?_)) | (with_reducible refine Mine.wpAny_ifF (by kernel_rfl!) ?_) | (with_reducible refine Mine.wpAny_ifT (by kernel_rfl!) ?_) | ((fail_if_success (first | (with_reducible show wpAny _ _ (isSubtype _ _) _ _ _) | (with_reducible show wpAny _ _ (typeOf (Value.type _)) _ _ _) | (with_reducible show wpAny _ _ (typeLookup (Value.type _) _) _ _ _) | (with_reducible show wpAny _ _ (Builtin.extendedBase _) _ _ _) | (with_reducible show wpAny _ _ (Builtin.mroHook? _) _ _ _) | (with_reducible show wpAny _ _ (Builtin.Slots.givesWeak _) _ _ _) | (with_reducible show wpAny _ _ (Builtin.Slots.givesDict _) _ _ _) | (with_reducible show wpAny _ _ (Builtin.Slots.varSize _) _ _ _) | (with_reducible show wpAny _ _ (Builtin.Slots.bestBase _) _ _ _) | (with_reducible show wpAny _ _ (Builtin.linearize _ _) _ _ _) | (with_reducible show wpAny _ _ (Bind.madeBy _) _ _ _) | (with_reducible show wpAny _ _ (Builtin.notOverATurnedClass _) _ _ _) | (with_reducible show wpAny _ _ (Builtin.noteSubclassOfBuiltin _ _) _ _ _) | (with_reducible show wpAny _ _ (Builtin.Slots.slotNamesOf _) _ _ _) | (with_reducible show wpAny _ _ (mroOf (Value.type _)) _ _ _) | (with_reducible show wpAny _ _ (classOwn (Value.type _) _) _ _ _) | (with_reducible show wpAny _ _ (Builtin.Slots.read _ _ _) _ _ _) | (with_reducible show wpAny _ _ (Sem.update _ _ _ _) _ _ _) | (with_reducible show wpAny _ _ (Sem.alloc _ _) _ _ _) | (with_reducible show wpAny _ _ (collect _) _ _ _) | (with_reducible show wpAny _ _ (call _ _ _) _ _ _) | (with_reducible show wpAny _ _ (Builtin.Slots.install _ _ _ _) _ _ _) | (with_reducible show wpAny _ _ (Bind.refreshMaker _) _ _ _))); k_node))
  refine wpAny_of_eq q_ty_ga ?_
  repeat (first | with_reducible refine Mine.nd_tryCatch ?_ | with_reducible refine wpAny_holding ?_ | k_unfold | (with_reducible refine wpAny_bind ?_; k_fold) | (with_reducible refine nd_bind ?_; k_fold) | with_reducible refine wpAny_holding ?_ | with_reducible refine wpAny_keep ?_ | (with_reducible refine wpAny_onRaise ?_; k_fold) | (with_reducible refine wpAny_tryCatch ?_; k_fold) | (with_reducible refine Mine.nd_tryCatch ?_; k_fold) | (with_reducible refine wpAny_attempt ?_; k_fold) | (with_reducible refine Mine.m_load (by first | exact PySem.W.X.Mem.at (by assumption) 0 _ _ rfl | exact PySem.W.X.Mem.at (by assumption) 1 _ _ rfl | exact PySem.W.X.Mem.at (by assumption) 2 _ _ rfl | exact PySem.W.X.Mem.at (by assumption) 3 _ _ rfl | exact PySem.W.X.Mem.old (by assumption) _ _ (by assumption) rfl) ?_) | ((with_reducible show wpAny _ _ (Sem.update _ _ _ _) _ _ _); first | (refine Mine.m_update (by assumption) 0 rfl _ rfl rfl ?_; intro _ _) | (refine Mine.m_update (by assumption) 1 rfl _ rfl rfl ?_; intro _ _) | (refine Mine.m_update (by assumption) 2 rfl _ rfl rfl ?_; intro _ _) | (refine Mine.m_update (by assumption) 3 rfl _ rfl rfl ?_; intro _ _)) | (first | ((with_reducible show wpAny _ _ (isSubtype _ _) _ _ _); first | refine wpAny_of_eq (Mine.q_sub_tuple) ?_ | refine wpAny_of_eq (Mine.q_sub_dict) ?_ | refine wpAny_of_eq (Mine.q_sub_type) ?_) | ((with_reducible show wpAny _ _ (typeOf (Value.type _)) _ _ _); first | refine wpAny_of_eq (Mine.q_ty_object) ?_) | ((with_reducible show wpAny _ _ (typeLookup (Value.type _) _) _ _ _); first | refine wpAny_of_eq (Mine.q_dict_iter) ?_ | refine wpAny_of_eq (Mine.q_sn_function) ?_ | refine wpAny_of_eq (Mine.q_sn_str) ?_ | refine wpAny_of_eq (Mine.q_sn_list) ?_ | refine wpAny_of_eq (Mine.q_sn_int) ?_ | refine wpAny_of_eq (Mine.q_sn_tuple) ?_ | refine wpAny_of_eq (Mine.q_sn_none) ?_ | refine wpAny_of_eq (Mine.q_sn_md) ?_) | ((with_reducible show wpAny _ _ (Builtin.extendedBase _) _ _ _); first | refine wpAny_of_eq (Mine.q_ext) ?_) | ((with_reducible show wpAny _ _ (Builtin.mroHook? _) _ _ _); first | refine wpAny_of_eq (Mine.q_hook) ?_) | ((with_reducible show wpAny _ _ (Builtin.Slots.givesWeak _) _ _ _); first | refine wpAny_of_eq (Mine.q_weak) ?_) | ((with_reducible show wpAny _ _ (Builtin.Slots.givesDict _) _ _ _); first | refine wpAny_of_eq (Mine.q_gdict) ?_) | ((with_reducible show wpAny _ _ (Builtin.Slots.varSize _) _ _ _); first | refine wpAny_of_eq (Mine.q_var) ?_) | ((with_reducible show wpAny _ _ (Builtin.Slots.bestBase _) _ _ _); first | refine wpAny_of_eq (Mine.q_best) ?_) | ((with_reducible show wpAny _ _ (Builtin.linearize _ _) _ _ _); first | refine wpAny_of_eq (Mine.q_lin) ?_) | ((with_reducible show wpAny _ _ (Bind.madeBy _) _ _ _); first | refine wpAny_of_eq (Mine.q_made) ?_) | ((with_reducible show wpAny _ _ (Builtin.notOverATurnedClass _) _ _ _); first | refine wpAny_of_eq (Mine.q_turned) ?_) | ((with_reducible show wpAny _ _ (Builtin.noteSubclassOfBuiltin _ _) _ _ _); first | refine wpAny_of_eq (Mine.q_note _) ?_) | ((with_reducible show wpAny _ _ (Builtin.Slots.slotNamesOf _) _ _ _); first | refine wpAny_of_eq (Mine.q_slotNames) ?_) | ((with_reducible show wpAny _ _ (classOwn (Value.type _) _) _ _ _); first | refine wpAny_of_eq (Mine.q_own_new) ?_)) | (with_reducible refine Mine.wpAny_ifF (by kernel_rfl!) ?_) | (with_reducible refine Mine.wpAny_ifT (by kernel_rfl!) ?_) | ((fail_if_success (first | (with_reducible show wpAny _ _ (isSubtype _ _) _ _ _) | (with_reducible show wpAny _ _ (typeOf (Value.type _)) _ _ _) | (with_reducible show wpAny _ _ (typeLookup (Value.type _) _) _ _ _) | (with_reducible show wpAny _ _ (Builtin.extendedBase _) _ _ _) | (with_reducible show wpAny _ _ (Builtin.mroHook? _) _ _ _) | (with_reducible show wpAny _ _ (Builtin.Slots.givesWeak _) _ _ _) | (with_reducible show wpAny _ _ (Builtin.Slots.givesDict _) _ _ _) | (with_reducible show wpAny _ _ (Builtin.Slots.varSize _) _ _ _) | (with_reducible show wpAny _ _ (Builtin.Slots.bestBase _) _ _ _) | (with_reducible show wpAny _ _ (Builtin.linearize _ _) _ _ _) | (with_reducible show wpAny _ _ (Bind.madeBy _) _ _ _) | (with_reducible show wpAny _ _ (Builtin.notOverATurnedClass _) _ _ _) | (with_reducible show wpAny _ _ (Builtin.noteSubclassOfBuiltin _ _) _ _ _) | (with_reducible show wpAny _ _ (Builtin.Slots.slotNamesOf _) _ _ _) | (with_reducible show wpAny _ _ (mroOf (Value.type _)) _ _ _) | (with_reducible show wpAny _ _ (classOwn (Value.type _) _) _ _ _) | (with_reducible show wpAny _ _ (Builtin.Slots.read _ _ _) _ _ _) | (with_reducible show wpAny _ _ (Sem.update _ _ _ _) _ _ _) | (with_reducible show wpAny _ _ (Sem.alloc _ _) _ _ _) | (with_reducible show wpAny _ _ (collect _) _ _ _) | (with_reducible show wpAny _ _ (call _ _ _) _ _ _) | (with_reducible show wpAny _ _ (Builtin.Slots.install _ _ _ _) _ _ _) | (with_reducible show wpAny _ _ (Bind.refreshMaker _) _ _ _))); k_node))
  show wpAny _ _ (call (Value.builtin "type.__getattribute__") [.type "type", .str "__prepare__" t]) _ _ _
  refine wpAny_mono (prepB r) (fun v s' hv => ?_) (fun _ _ z => z.elim)
  obtain ⟨h', tk, a, rfl, k, rfl, n, e⟩ := hv
  have := hq h' tk a k n e
  clear D
  have D := Mem.start h'
  show wpAny _ _ _ _ _ _
  repeat (first | with_reducible refine Mine.nd_tryCatch ?_ | with_reducible refine wpAny_holding ?_ | k_unfold | (with_reducible refine wpAny_bind ?_; k_fold) | (with_reducible refine nd_bind ?_; k_fold) | with_reducible refine wpAny_holding ?_ | with_reducible refine wpAny_keep ?_ | (with_reducible refine wpAny_onRaise ?_; k_fold) | (with_reducible refine wpAny_tryCatch ?_; k_fold) | (with_reducible refine Mine.nd_tryCatch ?_; k_fold) | (with_reducible refine wpAny_attempt ?_; k_fold) | (with_reducible refine Mine.m_load (by first | exact PySem.W.X.Mem.at (by assumption) 0 _ _ rfl | exact PySem.W.X.Mem.at (by assumption) 1 _ _ rfl | exact PySem.W.X.Mem.at (by assumption) 2 _ _ rfl | exact PySem.W.X.Mem.at (by assumption) 3 _ _ rfl | exact PySem.W.X.Mem.old (by assumption) _ _ (by assumption) rfl) ?_) | ((with_reducible show wpAny _ _ (Sem.update _ _ _ _) _ _ _); first | (refine Mine.m_update (by assumption) 0 rfl _ rfl rfl ?_; intro _ _) | (refine Mine.m_update (by assumption) 1 rfl _ rfl rfl ?_; intro _ _) | (refine Mine.m_update (by assumption) 2 rfl _ rfl rfl ?_; intro _ _) | (refine Mine.m_update (by assumption) 3 rfl _ rfl rfl ?_; intro _ _)) | (first | ((with_reducible show wpAny _ _ (isSubtype _ _) _ _ _); first | refine wpAny_of_eq (Mine.q_sub_tuple) ?_ | refine wpAny_of_eq (Mine.q_sub_dict) ?_ | refine wpAny_of_eq (Mine.q_sub_type) ?_) | ((with_reducible show wpAny _ _ (typeOf (Value.type _)) _ _ _); first | refine wpAny_of_eq (Mine.q_ty_object) ?_) | ((with_reducible show wpAny _ _ (typeLookup (Value.type _) _) _ _ _); first | refine wpAny_of_eq (Mine.q_dict_iter) ?_ | refine wpAny_of_eq (Mine.q_sn_function) ?_ | refine wpAny_of_eq (Mine.q_sn_str) ?_ | refine wpAny_of_eq (Mine.q_sn_list) ?_ | refine wpAny_of_eq (Mine.q_sn_int) ?_ | refine wpAny_of_eq (Mine.q_sn_tuple) ?_ | refine wpAny_of_eq (Mine.q_sn_none) ?_ | refine wpAny_of_eq (Mine.q_sn_md) ?_) | ((with_reducible show wpAny _ _ (Builtin.extendedBase _) _ _ _); first | refine wpAny_of_eq (Mine.q_ext) ?_) | ((with_reducible show wpAny _ _ (Builtin.mroHook? _) _ _ _); first | refine wpAny_of_eq (Mine.q_hook) ?_) | ((with_reducible show wpAny _ _ (Builtin.Slots.givesWeak _) _ _ _); first | refine wpAny_of_eq (Mine.q_weak) ?_) | ((with_reducible show wpAny _ _ (Builtin.Slots.givesDict _) _ _ _); first | refine wpAny_of_eq (Mine.q_gdict) ?_) | ((with_reducible show wpAny _ _ (Builtin.Slots.varSize _) _ _ _); first | refine wpAny_of_eq (Mine.q_var) ?_) | ((with_reducible show wpAny _ _ (Builtin.Slots.bestBase _) _ _ _); first | refine wpAny_of_eq (Mine.q_best) ?_) | ((with_reducible show wpAny _ _ (Builtin.linearize _ _) _ _ _); first | refine wpAny_of_eq (Mine.q_lin) ?_) | ((with_reducible show wpAny _ _ (Bind.madeBy _) _ _ _); first | refine wpAny_of_eq (Mine.q_made) ?_) | ((with_reducible show wpAny _ _ (Builtin.notOverATurnedClass _) _ _ _); first | refine wpAny_of_eq (Mine.q_turned) ?_) | ((with_reducible show wpAny _ _ (Builtin.noteSubclassOfBuiltin _ _) _ _ _); first | refine wpAny_of_eq (Mine.q_note _) ?_) | ((with_reducible show wpAny _ _ (Builtin.Slots.slotNamesOf _) _ _ _); first | refine wpAny_of_eq (Mine.q_slotNames) ?_) | ((with_reducible show wpAny _ _ (classOwn (Value.type _) _) _ _ _); first | refine wpAny_of_eq (Mine.q_own_new) ?_)) | (with_reducible refine Mine.wpAny_ifF (by kernel_rfl!) ?_) | (with_reducible refine Mine.wpAny_ifT (by kernel_rfl!) ?_) | ((fail_if_success (first | (with_reducible show wpAny _ _ (isSubtype _ _) _ _ _) | (with_reducible show wpAny _ _ (typeOf (Value.type _)) _ _ _) | (with_reducible show wpAny _ _ (typeLookup (Value.type _) _) _ _ _) | (with_reducible show wpAny _ _ (Builtin.extendedBase _) _ _ _) | (with_reducible show wpAny _ _ (Builtin.mroHook? _) _ _ _) | (with_reducible show wpAny _ _ (Builtin.Slots.givesWeak _) _ _ _) | (with_reducible show wpAny _ _ (Builtin.Slots.givesDict _) _ _ _) | (with_reducible show wpAny _ _ (Builtin.Slots.varSize _) _ _ _) | (with_reducible show wpAny _ _ (Builtin.Slots.bestBase _) _ _ _) | (with_reducible show wpAny _ _ (Builtin.linearize _ _) _ _ _) | (with_reducible show wpAny _ _ (Bind.madeBy _) _ _ _) | (with_reducible show wpAny _ _ (Builtin.notOverATurnedClass _) _ _ _) | (with_reducible show wpAny _ _ (Builtin.noteSubclassOfBuiltin _ _) _ _ _) | (with_reducible show wpAny _ _ (Builtin.Slots.slotNamesOf _) _ _ _) | (with_reducible show wpAny _ _ (mroOf (Value.type _)) _ _ _) | (with_reducible show wpAny _ _ (classOwn (Value.type _) _) _ _ _) | (with_reducible show wpAny _ _ (Builtin.Slots.read _ _ _) _ _ _) | (with_reducible show wpAny _ _ (Sem.update _ _ _ _) _ _ _) | (with_reducible show wpAny _ _ (Sem.alloc _ _) _ _ _) | (with_reducible show wpAny _ _ (collect _) _ _ _) | (with_reducible show wpAny _ _ (call _ _ _) _ _ _) | (with_reducible show wpAny _ _ (Builtin.Slots.install _ _ _ _) _ _ _) | (with_reducible show wpAny _ _ (Bind.refreshMaker _) _ _ _))); k_node))
  exact this
end
end Mine

-- part LClsT
set_option maxRecDepth 100000
set_option maxHeartbeats 0
set_option pp.deepTerms false
set_option pp.maxSteps 900
namespace Mine
open PySem PySem.W PySem.W.X PyProof.Rows PySem.Calls
section
variable {prog : Program} {w : World} {A : Around} {E : Value → Shared → Prop} {s : Shared} {I : Kn}
theorem ldNameK {P : Params} {h : Heap} {g : Array GenState} {d : Drawn} {t : Nat} {os : OsState} {nsA c F cell : Addr} {n : Nat} {mg : Str → Option Value} {v : Value} {Q : Value → Shared → Prop} (hns : h.get? nsA = some (dictOf [] n)) (hg : h.Ns 3 mg) (hv : mg "__name__" = some v) (hq : Q v ⟨h, g, d, t, os⟩) :
    wpAny (model prog w) A (loadName (cenv P nsA c F cell) "__name__") Q E ⟨h, g, d, t, os⟩ := by
  have hk : (cenv P nsA c F cell).kindOf "__name__" = none := by kernel_rfl!
  have hb : (cenv P nsA c F cell).blockKind = .class := by kernel_rfl!
  have ha : (cenv P nsA c F cell).scope.kind.isAnnotationScope = false := by kernel_rfl!
  have hc : compilersOwnNames.contains (Str.ofString "__name__") = true := by kernel_rfl!
  unfold loadName
  rw [hk, hb, ha]
  simp only [Bool.false_and, Bool.false_eq_true, if_false]
  rw [hc]
  simp only [Bool.not_true, Bool.false_eq_true, if_false]
  refine wpAny_bind ?_
  unfold localGet
  refine wpAny_bind (wpAny_load (a := nsA) hns ?_)
  show wpAny _ _ (if ((Value.type "dict" == Value.type "dict") = true) then _ else _) _ _ _
  rw [if_pos (by rfl)]
  refine nsGet_I (ns := nsA) (name := Str.ofString "__name__") (o := dictOf [] n) (r := none) hns (by kernel_rfl!) ?_
  show wpAny _ _ (loadGlobal _ _) _ _ _
  unfold loadGlobal
  refine wpAny_bind (wpAny_nsGet (a := 3) hg ?_)
  rw [hv]
  exact wpAny_pure hq
-- the class statement behind the code object
noncomputable def tailK (P : Params) (env : Env) (nsA c bt : Addr) (tN : Tok) : Sem Value := do
  let builtins ← builtinsFor env.globals env.builtins
  let frame ← newBodyFrame (.ref c) env.globals nsA builtins
  let cl ← closureFor (scopeOf (kCls P)) env
  let ce : Env := { scope := scopeOf (kCls P), locals := nsA, globals := env.globals, cells := cl, qual := (Str.ofString "cmp_to_key.<locals>.K") ++ (Str.ofString "."), code := .ref c, frame := some frame, builtins := builtins }
  holding [.ref frame] do
  enterFrame
  (do storeName ce "__module__" (← loadName ce "__name__")
      storeName ce "__qualname__" (← mkText "cmp_to_key.<locals>.K")
      (storeName ce "__firstlineno__" (← mkInt (4 : Nat)) >>= fun _ => pure ()) : Sem Unit).onRaise (leavingAround ce)
  let _ ← run (.body (bodyOf (kCls P)) ce)
  (do (storeName ce "__static_attributes__" (← newTextTuple (← [Str.ofString "obj"].mapM mkText)) >>= fun _ => pure ()) : Sem Unit).onRaise (leavingAround ce)
  (call (.type "type") [.str "K" tN, .ref bt, .ref nsA] >>= fun cls => pure cls)
def there (h h' : Heap) : Prop := ∀ b o, h.get? b = some o → ∃ o', h'.get? b = some o'
theorem there.none {h h' : Heap} (x : there h h') {b : Addr} (e : h'.get? b = none) : h.get? b = none := by
  cases q : h.get? b with
  | none => rfl
  | some o => obtain ⟨o', e'⟩ := x b o q; rw [e'] at e; cases e
theorem there.trans {h h' h'' : Heap} (x : there h h') (y : there h' h'') : there h h'' := fun b o e => let ⟨o', e'⟩ := x b o e; y b o' e'
theorem there.of {h h' : Heap} (k : ∀ b o, h.get? b = some o → h'.get? b = some o) : there h h' := fun b o e => ⟨o, k b o e⟩
theorem KFns.mono {P : Params} {h₀ h₁ h h' : Heap} {cell : Addr} {pm : Value} {f : Nat → Addr} (x : KFns P h₀ h cell pm f) (t : there h₁ h₀) (k : ∀ b o, h₀.get? b = none → h.get? b = some o → h'.get? b = some o) : KFns P h₁ h' cell pm f :=
  ⟨fun i hi => by
    obtain ⟨doc, ctv, c', o, vs, tt, a, b, c, d, e⟩ := x.at_ i hi
    exact ⟨doc, ctv, c', o, vs, tt, k _ _ b a, t.none b, t.none c, k _ _ c d, e⟩⟩
-- what cmp_to_key's class is, in a heap
inductive KAt (w : World) (h₀ h : Heap) (C cell : Addr) : Prop
  | mk (ns bt : Addr) (tN tQ : Tok) (md : Addr) (n : Nat) (k u : Nat → Tok) (sl sa : Addr) (f : Nat → Addr) (t1 t2 tm : Tok) (pm : Value) (a1 : h.get? C = some (clsK C ns bt tN tQ)) (a2 : h.get? ns = some (dictOf (entB w (eA w) k u sl sa f md t1 t2) n))
    (a3 : h.get? md = some { cls := .type "member_descriptor", data := .fields #[.str "obj" tm, .ref C, .builtin "proto.slot", .builtin "proto.slot#set", rawInt 0] }) (a4 : KFns w.params h₀ h cell pm f) (a5 : h₀.get? C = none) (a6 : h₀.get? ns = none) (a7 : h₀.get? md = none) : KAt w h₀ h C cell
theorem tailT {h : Heap} {g : Array GenState} {d : Drawn} {t : Nat} {os : OsState} {env : Env} {cell nsA c bt Pk : Addr} {tN : Tok} {Q : Value → Shared → Prop} (r : Room A 40)
    (e2 : env.globals = 3) (e3 : env.builtins = 0) (e4 : closureFor (scopeOf (kCls w.params)) env = pure [(Str.ofString "mycmp", cell)]) {mg : Str → Option Value} {vn : Value} (hg : h.Ns 3 mg) (hb4 : mg "__builtins__" = some (.ref 4)) (hmn : mg "__name__" = some vn) (hlim : h.NoLimit) (KX : (KP w.params).In h)
    (hns : h.get? nsA = some (dictOf [] 0)) (hd : CodeHd h c Pk) (htb : h.get? Pk = some (tabObj #[])) (hbt : h.get? bt = some (tupO [.type "object"] 0)) (hl : ∀ a o, (KP w.params).lookup a = some o → a ≠ nsA ∧ a ≠ Pk) (hne : nsA ≠ Pk) (hne2 : nsA ≠ c) (hne3 : Pk ≠ c) (hne4 : bt ≠ nsA) (hne5 : bt ≠ Pk)
    (hq : ∀ C h' tk, keepB nsA Pk h h' → there h h' → KAt w h h' C cell → Q (.ref C) ⟨h', g, d, tk, os⟩) :
    wpAny (model prog w) A (tailK w.params env nsA c bt tN) Q E ⟨h, g, d, t, os⟩ := by
  unfold tailK
  rw [e2, e3, e4]
  have b4 : h.get? 4 = some _ := KX 4 _ (show (KP w.params).lookup 4 = some _ from by rfl)
  have l3 := hl 3 _ (show (KP w.params).lookup 3 = some _ from by rfl)
  have l4 := hl 4 _ (show (KP w.params).lookup 4 = some _ from by rfl)
  have l1 := hl 1 _ (show (KP w.params).lookup 1 = some _ from by rfl)
  refine wpAny_bind (wpAny_builtinsFor hg hb4 (by decide) b4 rfl rfl rfl ?_)
  refine wpAny_bind ?_
  unfold newBodyFrame
  refine wpAny_bind (wpAny_nsGet hg (wpAny_alloc ?_))
  refine wpAny_bind (wpAny_pure ?_)
  dsimp only
  rw [show ({ scope := scopeOf (kCls w.params), locals := nsA, globals := 3, cells := [(Str.ofString "mycmp", cell)], qual := Str.ofString "cmp_to_key.<locals>.K" ++ Str.ofString ".", code := Value.ref c, frame := some h.objs.size, builtins := builtinsNs } : Env) = cenv w.params nsA c h.objs.size cell from by rfl]
  generalize hF : h.objs.size = F
  generalize hh1 : h.push _ = h1
  have up1 : ∀ b o, h.get? b = some o → h1.get? b = some o := fun b o e => by rw [← hh1]; exact Heap.get?_push_of_some _ e
  refine wpAny_holding (wpAny_bind (wpAny_enterFrame (hlim.keeps up1) r.lim ?_))
  refine wpAny_bind (wpAny_onRaise ?_)
  refine wpAny_bind (ldNameK (up1 _ _ hns) (hg.keeps up1) hmn ?_)
  refine wpAny_bind (stK (es := []) (es' := [⟨eA w 1, .str "__module__" t, vn⟩]) (n' := 1) (up1 _ _ hns) (by kernel_rfl!) (by kernel_rfl!) (by kernel_rfl!) fun h2 n2 s2 => ?_)
  refine wpAny_bind (wpAny_mkText ?_)
  refine wpAny_bind (stK (h := h2) (g := g) (d := d) (t := t + 1 + 1) (os := os) (es' := [⟨eA w 1, .str "__module__" t, vn⟩, ⟨eA w 2, .str "__qualname__" (t + 1 + 1), .str "cmp_to_key.<locals>.K" (t + 1)⟩]) (n' := 2) n2 (by kernel_rfl!) (by kernel_rfl!) (by kernel_rfl!) fun h3 n3 s3 => ?_)
  refine wpAny_bind (wpAny_mkInt ?_)
  refine wpAny_bind (stK (h := h3) (g := g) (d := d) (t := t + 1 + 1 + 1 + 1) (os := os) (es' := ent3 w t (t + 1 + 1) (t + 1 + 1 + 1 + 1) vn (.str "cmp_to_key.<locals>.K" (t + 1)) (.int 4 (t + 1 + 1 + 1))) (n' := 3) n3 (by kernel_rfl!) (by kernel_rfl!) (by kernel_rfl!) fun h4 n4 s4 => wpAny_pure ?_)
  have kb4 : keepB nsA Pk h h4 := fun b o z1 _ e => (s4.2 b z1).trans ((s3.2 b z1).trans ((s2.2 b z1).trans (up1 b o e)))
  have th4 : there h h4 := fun b o e => by
    by_cases z : b = nsA
    · subst z; exact ⟨_, n4⟩
    · exact ⟨o, (s4.2 b z).trans ((s3.2 b z).trans ((s2.2 b z).trans (up1 b o e)))⟩
  have tb4 : h4.get? Pk = some (tabObj #[]) := (s4.2 _ (Ne.symm hne)).trans ((s3.2 _ (Ne.symm hne)).trans ((s2.2 _ (Ne.symm hne)).trans (up1 _ _ htb)))
  have B0 : CBase h nsA Pk c mg := ⟨hd, hg, hb4, ⟨4, _, hb4, by decide, by decide, l4.2, b4, rfl, rfl, rfl⟩, hne, Ne.symm l3.1, Ne.symm l3.2, hne2, hne3, Ne.symm l4.1⟩
  have B4 := B0.keep kb4
  refine wpAny_bind (wpAny_run (codeAny_body (by kernel_rfl!) (by kernel_rfl!) (wpAny_mono (bodyK B4 n4 tb4 ?_) (fun _ _ x => x) (fun _ _ z => z))))
  intro k u1 t0 sl f h5 n' tk5 kb5 n5 hsl fsl ePk fns
  show wpAny _ _ (Sem.onRaise _ _ >>= _) Q E ⟨h5, g, d, tk5, os⟩
  refine wpAny_bind (wpAny_onRaise ?_)
  rw [List.mapM_cons, List.mapM_nil]
  refine wpAny_bind (wpAny_bind (wpAny_mkText (wpAny_bind (wpAny_pure (wpAny_pure ?_)))))
  refine wpAny_bind (wpAny_newTextTuple ?_)
  have n5' := Heap.get?_push_of_some (tupO [.str "obj" tk5] 0) n5
  refine wpAny_bind (stK (h := h5.push (tupO [.str "obj" tk5] 0)) (g := g) (d := d) (t := tk5 + 1) (os := os)
    (es' := entA (eA w) (fun i => match i with | 12 => tk5 + 1 | i => k i) (fun i => match i with | 1 => u1 | 2 => t + 1 | _ => t + 1 + 1 + 1) sl h5.objs.size f) (n' := n' + 1) n5' (by kernel_rfl!) (by kernel_rfl!) (by kernel_rfl!) fun h7 n7 s7 => wpAny_pure ?_)
  have k57 : ∀ b o, b ≠ nsA → h5.get? b = some o → h7.get? b = some o := fun b o z e => (s7.2 b z).trans (Heap.get?_push_of_some _ e)
  have ns4 : ∀ b, h4.get? b = none → b ≠ nsA ∧ b ≠ Pk := fun b e => ⟨fun z => by (rw [z, n4] at e; cases e), fun z => by (rw [z, tb4] at e; cases e)⟩
  have k47 : keepB nsA Pk h4 h7 := fun b o z1 z2 e => k57 b o z1 (kb5 b o z1 z2 e)
  have kb7 : keepB nsA Pk h h7 := kb4.trans k47
  obtain ⟨oPk, ePk⟩ := ePk
  have ePk5 := k57 _ _ (Ne.symm hne) ePk
  have th7 : there h h7 := fun b o e => by
    by_cases z1 : b = nsA
    · exact ⟨_, z1 ▸ n7⟩
    · by_cases z2 : b = Pk
      · exact ⟨_, z2 ▸ ePk5⟩
      · exact ⟨o, kb7 b o z1 z2 e⟩
  have hx : ∀ i, ∃ fd : FuncData, i < 6 → h7.get? (f i) = some { cls := .type "function", data := .func fd } := fun i => by
    by_cases hi : i < 6
    · obtain ⟨doc, ctv, c', o, vs, tt, q1, q2, _⟩ := fns.at_ i hi
      exact ⟨_, fun _ => k57 _ _ (ns4 _ q2).1 q1⟩
    · exact ⟨default, fun z => absurd z hi⟩
  have sa7 : h7.get? h5.objs.size = some (tupO [.str "obj" tk5] 0) := (s7.2 _ (Nat.ne_of_gt (Heap.lt_size n5))).trans (Heap.get?_push_size _ rfl)
  have KX7 : (KP w.params).In h7 := fun a o e => kb7 a o (hl a o e).1 (hl a o e).2 (KX a o e)
  refine wpAny_bind (mkK (fd := fun i => Classical.choose (hx i)) (r.mono (by decide)) KX7 (kb7 _ _ hne4 hne5 hbt) (k57 _ _ (ns4 _ fsl).1 hsl) (Ne.symm l1.1) (fun i => Classical.choose_spec (hx i)) sa7 n7 ?_)
  intro C ns md n tm t1 t2 tQ h8 tk8 a1 a2 a3 a4 a5 a6 a7
  refine wpAny_pure (hq C h8 tk8 (fun b o z1 z2 e => a1 _ _ (kb7 b o z1 z2 e)) (th7.trans (there.of a1)) ?_)
  exact ⟨ns, bt, tN, tQ, md, n, _, _, sl, _, f, t1, t2, tm, _, a5, a6, a7, fns.mono th4 (fun b o q1 q2 => a1 _ _ (k57 b o (ns4 b q1).1 q2)), th7.none a2, th7.none a3, th7.none a4⟩
end
end Mine

-- part LClsE
set_option maxRecDepth 100000
set_option maxHeartbeats 0
set_option pp.deepTerms false
set_option pp.maxSteps 900
namespace Mine
open PySem PySem.W PySem.W.X PyProof.Rows PySem.Calls
section
variable {prog : Program} {w : World} {A : Around} {E : Value → Shared → Prop} {s : Shared} {I : Kn}


theorem q_dict_gi : typeLookup (.type "dict") "__getitem__" = pure (some (.builtin "dict.__getitem__")) := by kernel_rfl!
theorem at_prog {α : Type} {M : Model} {x : Sem α} {Q : α → Shared → Prop} {s : Shared} (y : Sem α) (e : x = y) (h : wpAny M A y Q E s) : wpAny M A x Q E s := e ▸ h
theorem bkK {h : Heap} {g : Array GenState} {d : Drawn} {t : Nat} {os : OsState} {env : Env} {cell : Addr} {Q : Value → Shared → Prop} (r : Room A 40) (KX : (KP w.params).In h) (h16 : h.get? 16 = some (tableObj #[]))
    (e1 : env.code = .ref 20) (e2 : env.globals = 3) (e3 : env.builtins = 0) (e4 : closureFor (scopeOf (kCls w.params)) env = pure [(Str.ofString "mycmp", cell)]) {mg : Str → Option Value} {vn : Value} (hg : h.Ns 3 mg) (hb4 : mg "__builtins__" = some (.ref 4)) (hmn : mg "__name__" = some vn) (hlim : h.NoLimit)
    (hq : ∀ C h' tk, (∀ b o, b ≠ 16 → h.get? b = some o → h'.get? b = some o) → there h h' → (∃ ps, h'.get? 16 = some (tabObj ps)) → KAt w h h' C cell → Q (.ref C) ⟨h', g, d, tk, os⟩) :
    wpAny (model prog w) A (buildClass "K" "cmp_to_key.<locals>.K" [.type "object"] [] (bodyOf (kCls w.params)) (scopeOf (kCls w.params)) ["obj"] 4 env (posOf (kCls w.params)) none) Q E ⟨h, g, d, t, os⟩ := by
  unfold buildClass
  refine wpAny_bind (wpAny_newTuple ?_ (by show 1 ≤ sizeLine; decide))
  have D := Mem.start (h.push (tupO [.type "object"] 0))
  show wpAny _ _ _ _ _ ⟨h.push (tupO [.type "object"] 0), g, d, t, os⟩
  repeat (first | with_reducible refine Mine.nd_tryCatch ?_ | with_reducible refine wpAny_holding ?_ | ((fail_if_success (first | (with_reducible show wpAny _ _ (getAttr? _ _) _ _ _) | (with_reducible show wpAny _ _ (classCode _ _ _ _ _ _) _ _ _) | (with_reducible show wpAny _ _ (builtinsFor _ _) _ _ _) | (with_reducible show wpAny _ _ (newBodyFrame _ _ _ _) _ _ _) | (with_reducible show wpAny _ _ (closureFor _ _) _ _ _) | (with_reducible show wpAny _ _ (enterFrame _) _ _ _) | (with_reducible show wpAny _ _ (storeName _ _ _) _ _ _) | (with_reducible show wpAny _ _ (loadName _ _) _ _ _) | (with_reducible show wpAny _ _ (run _ _) _ _ _) | (with_reducible show wpAny _ _ (newTuple _) _ _ _) | (with_reducible show wpAny _ _ (call _ _ _) _ _ _) | (with_reducible show wpAny _ _ (newTextTuple _) _ _ _))); k_unfold) | (with_reducible refine wpAny_bind ?_; k_fold) | (with_reducible refine nd_bind ?_; k_fold) | with_reducible refine wpAny_holding ?_ | with_reducible refine wpAny_keep ?_ | (with_reducible refine wpAny_onRaise ?_; k_fold) | (with_reducible refine wpAny_tryCatch ?_; k_fold) | (with_reducible refine Mine.nd_tryCatch ?_; k_fold) | (with_reducible refine wpAny_attempt ?_; k_fold) | (with_reducible refine Mine.m_load (by first | exact PySem.W.X.Mem.at (by assumption) 0 _ _ rfl | exact PySem.W.X.Mem.at (by assumption) 1 _ _ rfl | exact PySem.W.X.Mem.at (by assumption) 2 _ _ rfl | exact PySem.W.X.Mem.at (by assumption) 3 _ _ rfl | exact PySem.W.X.Mem.old (by assumption) _ _ (by assumption) rfl) ?_) | ((with_reducible show wpAny _ _ (Sem.update _ _ _ _) _ _ _); first | (refine Mine.m_update (by assumption) 0 rfl _ rfl rfl ?_; intro _ _) | (refine Mine.m_update (by assumption) 1 rfl _ rfl rfl ?_; intro _ _) | (refine Mine.m_update (by assumption) 2 rfl _ rfl rfl ?_; intro _ _) | (refine Mine.m_update (by assumption) 3 rfl _ rfl rfl ?_; intro _ _)) | (first | ((with_reducible show wpAny _ _ (isSubtype _ _) _ _ _); first | refine wpAny_of_eq (Mine.q_sub_tuple) ?_ | refine wpAny_of_eq (Mine.q_sub_dict) ?_ | refine wpAny_of_eq (Mine.q_sub_type) ?_) | ((with_reducible show wpAny _ _ (typeOf (Value.type _)) _ _ _); first | refine wpAny_of_eq (Mine.q_ty_object) ?_) | ((with_reducible show wpAny _ _ (typeLookup (Value.type _) _) _ _ _); first | refine wpAny_of_eq (Mine.q_dict_iter) ?_ | refine wpAny_of_eq (Mine.q_sn_function) ?_ | refine wpAny_of_eq (Mine.q_sn_str) ?_ | refine wpAny_of_eq (Mine.q_sn_list) ?_ | refine wpAny_of_eq (Mine.q_sn_int) ?_ | refine wpAny_of_eq (Mine.q_sn_tuple) ?_ | refine wpAny_of_eq (Mine.q_sn_none) ?_ | refine wpAny_of_eq (Mine.q_sn_md) ?_) | ((with_reducible show wpAny _ _ (Builtin.extendedBase _) _ _ _); first | refine wpAny_of_eq (Mine.q_ext) ?_) | ((with_reducible show wpAny _ _ (Builtin.mroHook? _) _ _ _); first | refine wpAny_of_eq (Mine.q_hook) ?_) | ((with_reducible show wpAny _ _ (Builtin.Slots.givesWeak _) _ _ _); first | refine wpAny_of_eq (Mine.q_weak) ?_) | ((with_reducible show wpAny _ _ (Builtin.Slots.givesDict _) _ _ _); first | refine wpAny_of_eq (Mine.q_gdict) ?_) | ((with_reducible show wpAny _ _ (Builtin.Slots.varSize _) _ _ _); first | refine wpAny_of_eq (Mine.q_var) ?_) | ((with_reducible show wpAny _ _ (Builtin.Slots.bestBase _) _ _ _); first | refine wpAny_of_eq (Mine.q_best) ?_) | ((with_reducible show wpAny _ _ (Builtin.linearize _ _) _ _ _); first | refine wpAny_of_eq (Mine.q_lin) ?_) | ((with_reducible show wpAny _ _ (Bind.madeBy _) _ _ _); first | refine wpAny_of_eq (Mine.q_made) ?_) | ((with_reducible show wpAny _ _ (Builtin.notOverATurnedClass _) _ _ _); first | refine wpAny_of_eq (Mine.q_turned) ?_) | ((with_reducible show wpAny _ _ (Builtin.noteSubclassOfBuiltin _ _) _ _ _); first | refine wpAny_of_eq (Mine.q_note _) ?_) | ((with_reducible show wpAny _ _ (Builtin.Slots.slotNamesOf _) _ _ _); first | refine wpAny_of_eq (Mine.q_slotNames) ?_) | ((with_reducible show wpAny _ _ (classOwn (Value.type _) _) _ _ _); first | refine wpAny_of_eq (Mine.q_own_new) ?_)) | (with_reducible refine Mine.wpAny_ifF (by kernel_rfl!) ?_) | (with_reducible refine Mine.wpAny_ifT (by kernel_rfl!) ?_) | ((fail_if_success (first | (with_reducible show wpAny _ _ (isSubtype _ _) _ _ _) | (with_reducible show wpAny _ _ (typeOf (Value.type _)) _ _ _) | (with_reducible show wpAny _ _ (typeLookup (Value.type _) _) _ _ _) | (with_reducible show wpAny _ _ (Builtin.extendedBase _) _ _ _) | (with_reducible show wpAny _ _ (Builtin.mroHook? _) _ _ _) | (with_reducible show wpAny _ _ (Builtin.Slots.givesWeak _) _ _ _) | (with_reducible show wpAny _ _ (Builtin.Slots.givesDict _) _ _ _) | (with_reducible show wpAny _ _ (Builtin.Slots.varSize _) _ _ _) | (with_reducible show wpAny _ _ (Builtin.Slots.bestBase _) _ _ _) | (with_reducible show wpAny _ _ (Builtin.linearize _ _) _ _ _) | (with_reducible show wpAny _ _ (Bind.madeBy _) _ _ _) | (with_reducible show wpAny _ _ (Builtin.notOverATurnedClass _) _ _ _) | (with_reducible show wpAny _ _ (Builtin.noteSubclassOfBuiltin _ _) _ _ _) | (with_reducible show wpAny _ _ (Builtin.Slots.slotNamesOf _) _ _ _) | (with_reducible show wpAny _ _ (mroOf (Value.type _)) _ _ _) | (with_reducible show wpAny _ _ (classOwn (Value.type _) _) _ _ _) | (with_reducible show wpAny _ _ (Builtin.Slots.read _ _ _) _ _ _) | (with_reducible show wpAny _ _ (Sem.update _ _ _ _) _ _ _) | (with_reducible show wpAny _ _ (Sem.alloc _ _) _ _ _) | (with_reducible show wpAny _ _ (collect _) _ _ _) | (with_reducible show wpAny _ _ (call _ _ _) _ _ _) | (with_reducible show wpAny _ _ (Builtin.Slots.install _ _ _ _) _ _ _) | (with_reducible show wpAny _ _ (Bind.refreshMaker _) _ _ _))); (fail_if_success (first | (with_reducible show wpAny _ _ (getAttr? _ _) _ _ _) | (with_reducible show wpAny _ _ (classCode _ _ _ _ _ _) _ _ _) | (with_reducible show wpAny _ _ (builtinsFor _ _) _ _ _) | (with_reducible show wpAny _ _ (newBodyFrame _ _ _ _) _ _ _) | (with_reducible show wpAny _ _ (closureFor _ _) _ _ _) | (with_reducible show wpAny _ _ (enterFrame _) _ _ _) | (with_reducible show wpAny _ _ (storeName _ _ _) _ _ _) | (with_reducible show wpAny _ _ (loadName _ _) _ _ _) | (with_reducible show wpAny _ _ (run _ _) _ _ _) | (with_reducible show wpAny _ _ (newTuple _) _ _ _) | (with_reducible show wpAny _ _ (call _ _ _) _ _ _) | (with_reducible show wpAny _ _ (newTextTuple _) _ _ _))); k_node))
  refine prepA (r.mono (by decide)) ?_
  intro h2 tk2 pa k2 n2 e2'
  clear D
  have D := Mem.start h2
  show wpAny _ _ _ _ _ _
  repeat (first | with_reducible refine Mine.nd_tryCatch ?_ | with_reducible refine wpAny_holding ?_ | ((fail_if_success (first | (with_reducible show wpAny _ _ (getAttr? _ _) _ _ _) | (with_reducible show wpAny _ _ (classCode _ _ _ _ _ _) _ _ _) | (with_reducible show wpAny _ _ (builtinsFor _ _) _ _ _) | (with_reducible show wpAny _ _ (newBodyFrame _ _ _ _) _ _ _) | (with_reducible show wpAny _ _ (closureFor _ _) _ _ _) | (with_reducible show wpAny _ _ (enterFrame _) _ _ _) | (with_reducible show wpAny _ _ (storeName _ _ _) _ _ _) | (with_reducible show wpAny _ _ (loadName _ _) _ _ _) | (with_reducible show wpAny _ _ (run _ _) _ _ _) | (with_reducible show wpAny _ _ (newTuple _) _ _ _) | (with_reducible show wpAny _ _ (call _ _ _) _ _ _) | (with_reducible show wpAny _ _ (newTextTuple _) _ _ _))); k_unfold) | (with_reducible refine wpAny_bind ?_; k_fold) | (with_reducible refine nd_bind ?_; k_fold) | with_reducible refine wpAny_holding ?_ | with_reducible refine wpAny_keep ?_ | (with_reducible refine wpAny_onRaise ?_; k_fold) | (with_reducible refine wpAny_tryCatch ?_; k_fold) | (with_reducible refine Mine.nd_tryCatch ?_; k_fold) | (with_reducible refine wpAny_attempt ?_; k_fold) | (with_reducible refine Mine.m_load (by first | exact PySem.W.X.Mem.at (by assumption) 0 _ _ rfl | exact PySem.W.X.Mem.at (by assumption) 1 _ _ rfl | exact PySem.W.X.Mem.at (by assumption) 2 _ _ rfl | exact PySem.W.X.Mem.at (by assumption) 3 _ _ rfl | exact PySem.W.X.Mem.old (by assumption) _ _ (by assumption) rfl) ?_) | ((with_reducible show wpAny _ _ (Sem.update _ _ _ _) _ _ _); first | (refine Mine.m_update (by assumption) 0 rfl _ rfl rfl ?_; intro _ _) | (refine Mine.m_update (by assumption) 1 rfl _ rfl rfl ?_; intro _ _) | (refine Mine.m_update (by assumption) 2 rfl _ rfl rfl ?_; intro _ _) | (refine Mine.m_update (by assumption) 3 rfl _ rfl rfl ?_; intro _ _)) | (first | ((with_reducible show wpAny _ _ (isSubtype _ _) _ _ _); first | refine wpAny_of_eq (Mine.q_sub_tuple) ?_ | refine wpAny_of_eq (Mine.q_sub_dict) ?_ | refine wpAny_of_eq (Mine.q_sub_type) ?_) | ((with_reducible show wpAny _ _ (typeOf (Value.type _)) _ _ _); first | refine wpAny_of_eq (Mine.q_ty_object) ?_) | ((with_reducible show wpAny _ _ (typeLookup (Value.type _) _) _ _ _); first | refine wpAny_of_eq (Mine.q_dict_iter) ?_ | refine wpAny_of_eq (Mine.q_sn_function) ?_ | refine wpAny_of_eq (Mine.q_sn_str) ?_ | refine wpAny_of_eq (Mine.q_sn_list) ?_ | refine wpAny_of_eq (Mine.q_sn_int) ?_ | refine wpAny_of_eq (Mine.q_sn_tuple) ?_ | refine wpAny_of_eq (Mine.q_sn_none) ?_ | refine wpAny_of_eq (Mine.q_sn_md) ?_) | ((with_reducible show wpAny _ _ (Builtin.extendedBase _) _ _ _); first | refine wpAny_of_eq (Mine.q_ext) ?_) | ((with_reducible show wpAny _ _ (Builtin.mroHook? _) _ _ _); first | refine wpAny_of_eq (Mine.q_hook) ?_) | ((with_reducible show wpAny _ _ (Builtin.Slots.givesWeak _) _ _ _); first | refine wpAny_of_eq (Mine.q_weak) ?_) | ((with_reducible show wpAny _ _ (Builtin.Slots.givesDict _) _ _ _); first | refine wpAny_of_eq (Mine.q_gdict) ?_) | ((with_reducible show wpAny _ _ (Builtin.Slots.varSize _) _ _ _); first | refine wpAny_of_eq (Mine.q_var) ?_) | ((with_reducible show wpAny _ _ (Builtin.Slots.bestBase _) _ _ _); first | refine wpAny_of_eq (Mine.q_best) ?_) | ((with_reducible show wpAny _ _ (Builtin.linearize _ _) _ _ _); first | refine wpAny_of_eq (Mine.q_lin) ?_) | ((with_reducible show wpAny _ _ (Bind.madeBy _) _ _ _); first | refine wpAny_of_eq (Mine.q_made) ?_) | ((with_reducible show wpAny _ _ (Builtin.notOverATurnedClass _) _ _ _); first | refine wpAny_of_eq (Mine.q_turned) ?_) | ((with_reducible show wpAny _ _ (Builtin.noteSubclassOfBuiltin _ _) _ _ _); first | refine wpAny_of_eq (Mine.q_note _) ?_) | ((with_reducible show wpAny _ _ (Builtin.Slots.slotNamesOf _) _ _ _); first | refine wpAny_of_eq (Mine.q_slotNames) ?_) | ((with_reducible show wpAny _ _ (classOwn (Value.type _) _) _ _ _); first | refine wpAny_of_eq (Mine.q_own_new) ?_)) | (with_reducible refine Mine.wpAny_ifF (by kernel_rfl!) ?_) | (with_reducible refine Mine.wpAny_ifT (by kernel_rfl!) ?_) | ((fail_if_success (first | (with_reducible show wpAny _ _ (isSubtype _ _) _ _ _) | (with_reducible show wpAny _ _ (typeOf (Value.type _)) _ _ _) | (with_reducible show wpAny _ _ (typeLookup (Value.type _) _) _ _ _) | (with_reducible show wpAny _ _ (Builtin.extendedBase _) _ _ _) | (with_reducible show wpAny _ _ (Builtin.mroHook? _) _ _ _) | (with_reducible show wpAny _ _ (Builtin.Slots.givesWeak _) _ _ _) | (with_reducible show wpAny _ _ (Builtin.Slots.givesDict _) _ _ _) | (with_reducible show wpAny _ _ (Builtin.Slots.varSize _) _ _ _) | (with_reducible show wpAny _ _ (Builtin.Slots.bestBase _) _ _ _) | (with_reducible show wpAny _ _ (Builtin.linearize _ _) _ _ _) | (with_reducible show wpAny _ _ (Bind.madeBy _) _ _ _) | (with_reducible show wpAny _ _ (Builtin.notOverATurnedClass _) _ _ _) | (with_reducible show wpAny _ _ (Builtin.noteSubclassOfBuiltin _ _) _ _ _) | (with_reducible show wpAny _ _ (Builtin.Slots.slotNamesOf _) _ _ _) | (with_reducible show wpAny _ _ (mroOf (Value.type _)) _ _ _) | (with_reducible show wpAny _ _ (classOwn (Value.type _) _) _ _ _) | (with_reducible show wpAny _ _ (Builtin.Slots.read _ _ _) _ _ _) | (with_reducible show wpAny _ _ (Sem.update _ _ _ _) _ _ _) | (with_reducible show wpAny _ _ (Sem.alloc _ _) _ _ _) | (with_reducible show wpAny _ _ (collect _) _ _ _) | (with_reducible show wpAny _ _ (call _ _ _) _ _ _) | (with_reducible show wpAny _ _ (Builtin.Slots.install _ _ _ _) _ _ _) | (with_reducible show wpAny _ _ (Bind.refreshMaker _) _ _ _))); (fail_if_success (first | (with_reducible show wpAny _ _ (getAttr? _ _) _ _ _) | (with_reducible show wpAny _ _ (classCode _ _ _ _ _ _) _ _ _) | (with_reducible show wpAny _ _ (builtinsFor _ _) _ _ _) | (with_reducible show wpAny _ _ (newBodyFrame _ _ _ _) _ _ _) | (with_reducible show wpAny _ _ (closureFor _ _) _ _ _) | (with_reducible show wpAny _ _ (enterFrame _) _ _ _) | (with_reducible show wpAny _ _ (storeName _ _ _) _ _ _) | (with_reducible show wpAny _ _ (loadName _ _) _ _ _) | (with_reducible show wpAny _ _ (run _ _) _ _ _) | (with_reducible show wpAny _ _ (newTuple _) _ _ _) | (with_reducible show wpAny _ _ (call _ _ _) _ _ _) | (with_reducible show wpAny _ _ (newTextTuple _) _ _ _))); k_node))
  show wpAny _ _ (call (Value.ref pa) [.str "K" t, .ref h.objs.size]) _ _ _
  refine wpAny_mono (prepC (r.mono (by decide)) e2') (fun v s' hv => ?_) (fun _ _ z => z.elim)
  obtain ⟨h3, tk3, nsA, rfl, k3, rfl, n3, e3'⟩ := hv
  clear D
  have D := Mem.start h3
  show wpAny _ _ _ _ _ _
  repeat (first | with_reducible refine Mine.nd_tryCatch ?_ | with_reducible refine wpAny_holding ?_ | ((fail_if_success (first | (with_reducible show wpAny _ _ (getAttr? _ _) _ _ _) | (with_reducible show wpAny _ _ (classCode _ _ _ _ _ _) _ _ _) | (with_reducible show wpAny _ _ (builtinsFor _ _) _ _ _) | (with_reducible show wpAny _ _ (newBodyFrame _ _ _ _) _ _ _) | (with_reducible show wpAny _ _ (closureFor _ _) _ _ _) | (with_reducible show wpAny _ _ (enterFrame _) _ _ _) | (with_reducible show wpAny _ _ (storeName _ _ _) _ _ _) | (with_reducible show wpAny _ _ (loadName _ _) _ _ _) | (with_reducible show wpAny _ _ (run _ _) _ _ _) | (with_reducible show wpAny _ _ (newTuple _) _ _ _) | (with_reducible show wpAny _ _ (call _ _ _) _ _ _) | (with_reducible show wpAny _ _ (newTextTuple _) _ _ _))); k_unfold) | (with_reducible refine wpAny_bind ?_; k_fold) | (with_reducible refine nd_bind ?_; k_fold) | with_reducible refine wpAny_holding ?_ | with_reducible refine wpAny_keep ?_ | (with_reducible refine wpAny_onRaise ?_; k_fold) | (with_reducible refine wpAny_tryCatch ?_; k_fold) | (with_reducible refine Mine.nd_tryCatch ?_; k_fold) | (with_reducible refine wpAny_attempt ?_; k_fold) | (with_reducible refine Mine.m_load (by first | exact PySem.W.X.Mem.at (by assumption) 0 _ _ rfl | exact PySem.W.X.Mem.at (by assumption) 1 _ _ rfl | exact PySem.W.X.Mem.at (by assumption) 2 _ _ rfl | exact PySem.W.X.Mem.at (by assumption) 3 _ _ rfl | exact PySem.W.X.Mem.old (by assumption) _ _ (by assumption) rfl) ?_) | ((with_reducible show wpAny _ _ (Sem.update _ _ _ _) _ _ _); first | (refine Mine.m_update (by assumption) 0 rfl _ rfl rfl ?_; intro _ _) | (refine Mine.m_update (by assumption) 1 rfl _ rfl rfl ?_; intro _ _) | (refine Mine.m_update (by assumption) 2 rfl _ rfl rfl ?_; intro _ _) | (refine Mine.m_update (by assumption) 3 rfl _ rfl rfl ?_; intro _ _)) | (first | ((with_reducible show wpAny _ _ (isSubtype _ _) _ _ _); first | refine wpAny_of_eq (Mine.q_sub_tuple) ?_ | refine wpAny_of_eq (Mine.q_sub_dict) ?_ | refine wpAny_of_eq (Mine.q_sub_type) ?_) | ((with_reducible show wpAny _ _ (typeOf (Value.type _)) _ _ _); first | refine wpAny_of_eq (Mine.q_ty_object) ?_) | ((with_reducible show wpAny _ _ (typeLookup (Value.type _) _) _ _ _); first | refine wpAny_of_eq (Mine.q_dict_iter) ?_ | refine wpAny_of_eq (Mine.q_sn_function) ?_ | refine wpAny_of_eq (Mine.q_sn_str) ?_ | refine wpAny_of_eq (Mine.q_sn_list) ?_ | refine wpAny_of_eq (Mine.q_sn_int) ?_ | refine wpAny_of_eq (Mine.q_sn_tuple) ?_ | refine wpAny_of_eq (Mine.q_sn_none) ?_ | refine wpAny_of_eq (Mine.q_sn_md) ?_) | ((with_reducible show wpAny _ _ (Builtin.extendedBase _) _ _ _); first | refine wpAny_of_eq (Mine.q_ext) ?_) | ((with_reducible show wpAny _ _ (Builtin.mroHook? _) _ _ _); first | refine wpAny_of_eq (Mine.q_hook) ?_) | ((with_reducible show wpAny _ _ (Builtin.Slots.givesWeak _) _ _ _); first | refine wpAny_of_eq (Mine.q_weak) ?_) | ((with_reducible show wpAny _ _ (Builtin.Slots.givesDict _) _ _ _); first | refine wpAny_of_eq (Mine.q_gdict) ?_) | ((with_reducible show wpAny _ _ (Builtin.Slots.varSize _) _ _ _); first | refine wpAny_of_eq (Mine.q_var) ?_) | ((with_reducible show wpAny _ _ (Builtin.Slots.bestBase _) _ _ _); first | refine wpAny_of_eq (Mine.q_best) ?_) | ((with_reducible show wpAny _ _ (Builtin.linearize _ _) _ _ _); first | refine wpAny_of_eq (Mine.q_lin) ?_) | ((with_reducible show wpAny _ _ (Bind.madeBy _) _ _ _); first | refine wpAny_of_eq (Mine.q_made) ?_) | ((with_reducible show wpAny _ _ (Builtin.notOverATurnedClass _) _ _ _); first | refine wpAny_of_eq (Mine.q_turned) ?_) | ((with_reducible show wpAny _ _ (Builtin.noteSubclassOfBuiltin _ _) _ _ _); first | refine wpAny_of_eq (Mine.q_note _) ?_) | ((with_reducible show wpAny _ _ (Builtin.Slots.slotNamesOf _) _ _ _); first | refine wpAny_of_eq (Mine.q_slotNames) ?_) | ((with_reducible show wpAny _ _ (classOwn (Value.type _) _) _ _ _); first | refine wpAny_of_eq (Mine.q_own_new) ?_)) | (with_reducible refine Mine.wpAny_ifF (by kernel_rfl!) ?_) | (with_reducible refine Mine.wpAny_ifT (by kernel_rfl!) ?_) | ((fail_if_success (first | (with_reducible show wpAny _ _ (isSubtype _ _) _ _ _) | (with_reducible show wpAny _ _ (typeOf (Value.type _)) _ _ _) | (with_reducible show wpAny _ _ (typeLookup (Value.type _) _) _ _ _) | (with_reducible show wpAny _ _ (Builtin.extendedBase _) _ _ _) | (with_reducible show wpAny _ _ (Builtin.mroHook? _) _ _ _) | (with_reducible show wpAny _ _ (Builtin.Slots.givesWeak _) _ _ _) | (with_reducible show wpAny _ _ (Builtin.Slots.givesDict _) _ _ _) | (with_reducible show wpAny _ _ (Builtin.Slots.varSize _) _ _ _) | (with_reducible show wpAny _ _ (Builtin.Slots.bestBase _) _ _ _) | (with_reducible show wpAny _ _ (Builtin.linearize _ _) _ _ _) | (with_reducible show wpAny _ _ (Bind.madeBy _) _ _ _) | (with_reducible show wpAny _ _ (Builtin.notOverATurnedClass _) _ _ _) | (with_reducible show wpAny _ _ (Builtin.noteSubclassOfBuiltin _ _) _ _ _) | (with_reducible show wpAny _ _ (Builtin.Slots.slotNamesOf _) _ _ _) | (with_reducible show wpAny _ _ (mroOf (Value.type _)) _ _ _) | (with_reducible show wpAny _ _ (classOwn (Value.type _) _) _ _ _) | (with_reducible show wpAny _ _ (Builtin.Slots.read _ _ _) _ _ _) | (with_reducible show wpAny _ _ (Sem.update _ _ _ _) _ _ _) | (with_reducible show wpAny _ _ (Sem.alloc _ _) _ _ _) | (with_reducible show wpAny _ _ (collect _) _ _ _) | (with_reducible show wpAny _ _ (call _ _ _) _ _ _) | (with_reducible show wpAny _ _ (Builtin.Slots.install _ _ _ _) _ _ _) | (with_reducible show wpAny _ _ (Bind.refreshMaker _) _ _ _))); (fail_if_success (first | (with_reducible show wpAny _ _ (getAttr? _ _) _ _ _) | (with_reducible show wpAny _ _ (classCode _ _ _ _ _ _) _ _ _) | (with_reducible show wpAny _ _ (builtinsFor _ _) _ _ _) | (with_reducible show wpAny _ _ (newBodyFrame _ _ _ _) _ _ _) | (with_reducible show wpAny _ _ (closureFor _ _) _ _ _) | (with_reducible show wpAny _ _ (enterFrame _) _ _ _) | (with_reducible show wpAny _ _ (storeName _ _ _) _ _ _) | (with_reducible show wpAny _ _ (loadName _ _) _ _ _) | (with_reducible show wpAny _ _ (run _ _) _ _ _) | (with_reducible show wpAny _ _ (newTuple _) _ _ _) | (with_reducible show wpAny _ _ (call _ _ _) _ _ _) | (with_reducible show wpAny _ _ (newTextTuple _) _ _ _))); k_node))
  have up3 : ∀ b o, h.get? b = some o → h3.get? b = some o := fun b o e => k3 _ _ (k2 _ _ (Heap.get?_push_of_some _ e))
  have fr3 : h.get? nsA = none := by
    cases q : h.get? nsA with
    | none => rfl
    | some o => rw [k2 _ _ (Heap.get?_push_of_some _ q)] at n3; cases n3
  have hne : nsA ≠ 1 := fun z => by
    have := KX 1 _ (show (KP w.params).lookup 1 = some _ from by rfl)
    rw [← z, fr3] at this; cases this
  refine wpAny_ifF (beq_eq_false_iff_ne.mpr hne) ?_
  repeat (first | with_reducible refine Mine.nd_tryCatch ?_ | with_reducible refine wpAny_holding ?_ | ((fail_if_success (first | (with_reducible show wpAny _ _ (getAttr? _ _) _ _ _) | (with_reducible show wpAny _ _ (classCode _ _ _ _ _ _) _ _ _) | (with_reducible show wpAny _ _ (builtinsFor _ _) _ _ _) | (with_reducible show wpAny _ _ (newBodyFrame _ _ _ _) _ _ _) | (with_reducible show wpAny _ _ (closureFor _ _) _ _ _) | (with_reducible show wpAny _ _ (enterFrame _) _ _ _) | (with_reducible show wpAny _ _ (storeName _ _ _) _ _ _) | (with_reducible show wpAny _ _ (loadName _ _) _ _ _) | (with_reducible show wpAny _ _ (run _ _) _ _ _) | (with_reducible show wpAny _ _ (newTuple _) _ _ _) | (with_reducible show wpAny _ _ (call _ _ _) _ _ _) | (with_reducible show wpAny _ _ (newTextTuple _) _ _ _))); k_unfold) | (with_reducible refine wpAny_bind ?_; k_fold) | (with_reducible refine nd_bind ?_; k_fold) | with_reducible refine wpAny_holding ?_ | with_reducible refine wpAny_keep ?_ | (with_reducible refine wpAny_onRaise ?_; k_fold) | (with_reducible refine wpAny_tryCatch ?_; k_fold) | (with_reducible refine Mine.nd_tryCatch ?_; k_fold) | (with_reducible refine wpAny_attempt ?_; k_fold) | (with_reducible refine Mine.m_load (by first | exact PySem.W.X.Mem.at (by assumption) 0 _ _ rfl | exact PySem.W.X.Mem.at (by assumption) 1 _ _ rfl | exact PySem.W.X.Mem.at (by assumption) 2 _ _ rfl | exact PySem.W.X.Mem.at (by assumption) 3 _ _ rfl | exact PySem.W.X.Mem.old (by assumption) _ _ (by assumption) rfl) ?_) | ((with_reducible show wpAny _ _ (Sem.update _ _ _ _) _ _ _); first | (refine Mine.m_update (by assumption) 0 rfl _ rfl rfl ?_; intro _ _) | (refine Mine.m_update (by assumption) 1 rfl _ rfl rfl ?_; intro _ _) | (refine Mine.m_update (by assumption) 2 rfl _ rfl rfl ?_; intro _ _) | (refine Mine.m_update (by assumption) 3 rfl _ rfl rfl ?_; intro _ _)) | (first | ((with_reducible show wpAny _ _ (isSubtype _ _) _ _ _); first | refine wpAny_of_eq (Mine.q_sub_tuple) ?_ | refine wpAny_of_eq (Mine.q_sub_dict) ?_ | refine wpAny_of_eq (Mine.q_sub_type) ?_) | ((with_reducible show wpAny _ _ (typeOf (Value.type _)) _ _ _); first | refine wpAny_of_eq (Mine.q_ty_object) ?_) | ((with_reducible show wpAny _ _ (typeLookup (Value.type _) _) _ _ _); first | refine wpAny_of_eq (Mine.q_dict_iter) ?_ | refine wpAny_of_eq (Mine.q_sn_function) ?_ | refine wpAny_of_eq (Mine.q_sn_str) ?_ | refine wpAny_of_eq (Mine.q_sn_list) ?_ | refine wpAny_of_eq (Mine.q_sn_int) ?_ | refine wpAny_of_eq (Mine.q_sn_tuple) ?_ | refine wpAny_of_eq (Mine.q_sn_none) ?_ | refine wpAny_of_eq (Mine.q_sn_md) ?_) | ((with_reducible show wpAny _ _ (Builtin.extendedBase _) _ _ _); first | refine wpAny_of_eq (Mine.q_ext) ?_) | ((with_reducible show wpAny _ _ (Builtin.mroHook? _) _ _ _); first | refine wpAny_of_eq (Mine.q_hook) ?_) | ((with_reducible show wpAny _ _ (Builtin.Slots.givesWeak _) _ _ _); first | refine wpAny_of_eq (Mine.q_weak) ?_) | ((with_reducible show wpAny _ _ (Builtin.Slots.givesDict _) _ _ _); first | refine wpAny_of_eq (Mine.q_gdict) ?_) | ((with_reducible show wpAny _ _ (Builtin.Slots.varSize _) _ _ _); first | refine wpAny_of_eq (Mine.q_var) ?_) | ((with_reducible show wpAny _ _ (Builtin.Slots.bestBase _) _ _ _); first | refine wpAny_of_eq (Mine.q_best) ?_) | ((with_reducible show wpAny _ _ (Builtin.linearize _ _) _ _ _); first | refine wpAny_of_eq (Mine.q_lin) ?_) | ((with_reducible show wpAny _ _ (Bind.madeBy _) _ _ _); first | refine wpAny_of_eq (Mine.q_made) ?_) | ((with_reducible show wpAny _ _ (Builtin.notOverATurnedClass _) _ _ _); first | refine wpAny_of_eq (Mine.q_turned) ?_) | ((with_reducible show wpAny _ _ (Builtin.noteSubclassOfBuiltin _ _) _ _ _); first | refine wpAny_of_eq (Mine.q_note _) ?_) | ((with_reducible show wpAny _ _ (Builtin.Slots.slotNamesOf _) _ _ _); first | refine wpAny_of_eq (Mine.q_slotNames) ?_) | ((with_reducible show wpAny _ _ (classOwn (Value.type _) _) _ _ _); first | refine wpAny_of_eq (Mine.q_own_new) ?_)) | (with_reducible refine Mine.wpAny_ifF (by kernel_rfl!) ?_) | (with_reducible refine Mine.wpAny_ifT (by kernel_rfl!) ?_) | ((fail_if_success (first | (with_reducible show wpAny _ _ (isSubtype _ _) _ _ _) | (with_reducible show wpAny _ _ (typeOf (Value.type _)) _ _ _) | (with_reducible show wpAny _ _ (typeLookup (Value.type _) _) _ _ _) | (with_reducible show wpAny _ _ (Builtin.extendedBase _) _ _ _) | (with_reducible show wpAny _ _ (Builtin.mroHook? _) _ _ _) | (with_reducible show wpAny _ _ (Builtin.Slots.givesWeak _) _ _ _) | (with_reducible show wpAny _ _ (Builtin.Slots.givesDict _) _ _ _) | (with_reducible show wpAny _ _ (Builtin.Slots.varSize _) _ _ _) | (with_reducible show wpAny _ _ (Builtin.Slots.bestBase _) _ _ _) | (with_reducible show wpAny _ _ (Builtin.linearize _ _) _ _ _) | (with_reducible show wpAny _ _ (Bind.madeBy _) _ _ _) | (with_reducible show wpAny _ _ (Builtin.notOverATurnedClass _) _ _ _) | (with_reducible show wpAny _ _ (Builtin.noteSubclassOfBuiltin _ _) _ _ _) | (with_reducible show wpAny _ _ (Builtin.Slots.slotNamesOf _) _ _ _) | (with_reducible show wpAny _ _ (mroOf (Value.type _)) _ _ _) | (with_reducible show wpAny _ _ (classOwn (Value.type _) _) _ _ _) | (with_reducible show wpAny _ _ (Builtin.Slots.read _ _ _) _ _ _) | (with_reducible show wpAny _ _ (Sem.update _ _ _ _) _ _ _) | (with_reducible show wpAny _ _ (Sem.alloc _ _) _ _ _) | (with_reducible show wpAny _ _ (collect _) _ _ _) | (with_reducible show wpAny _ _ (call _ _ _) _ _ _) | (with_reducible show wpAny _ _ (Builtin.Slots.install _ _ _ _) _ _ _) | (with_reducible show wpAny _ _ (Bind.refreshMaker _) _ _ _))); (fail_if_success (first | (with_reducible show wpAny _ _ (getAttr? _ _) _ _ _) | (with_reducible show wpAny _ _ (classCode _ _ _ _ _ _) _ _ _) | (with_reducible show wpAny _ _ (builtinsFor _ _) _ _ _) | (with_reducible show wpAny _ _ (newBodyFrame _ _ _ _) _ _ _) | (with_reducible show wpAny _ _ (closureFor _ _) _ _ _) | (with_reducible show wpAny _ _ (enterFrame _) _ _ _) | (with_reducible show wpAny _ _ (storeName _ _ _) _ _ _) | (with_reducible show wpAny _ _ (loadName _ _) _ _ _) | (with_reducible show wpAny _ _ (run _ _) _ _ _) | (with_reducible show wpAny _ _ (newTuple _) _ _ _) | (with_reducible show wpAny _ _ (call _ _ _) _ _ _) | (with_reducible show wpAny _ _ (newTextTuple _) _ _ _))); k_node))
  refine wpAny_of_eq q_dict_gi ?_
  repeat (first | with_reducible refine Mine.nd_tryCatch ?_ | with_reducible refine wpAny_holding ?_ | ((fail_if_success (first | (with_reducible show wpAny _ _ (getAttr? _ _) _ _ _) | (with_reducible show wpAny _ _ (classCode _ _ _ _ _ _) _ _ _) | (with_reducible show wpAny _ _ (builtinsFor _ _) _ _ _) | (with_reducible show wpAny _ _ (newBodyFrame _ _ _ _) _ _ _) | (with_reducible show wpAny _ _ (closureFor _ _) _ _ _) | (with_reducible show wpAny _ _ (enterFrame _) _ _ _) | (with_reducible show wpAny _ _ (storeName _ _ _) _ _ _) | (with_reducible show wpAny _ _ (loadName _ _) _ _ _) | (with_reducible show wpAny _ _ (run _ _) _ _ _) | (with_reducible show wpAny _ _ (newTuple _) _ _ _) | (with_reducible show wpAny _ _ (call _ _ _) _ _ _) | (with_reducible show wpAny _ _ (newTextTuple _) _ _ _))); k_unfold) | (with_reducible refine wpAny_bind ?_; k_fold) | (with_reducible refine nd_bind ?_; k_fold) | with_reducible refine wpAny_holding ?_ | with_reducible refine wpAny_keep ?_ | (with_reducible refine wpAny_onRaise ?_; k_fold) | (with_reducible refine wpAny_tryCatch ?_; k_fold) | (with_reducible refine Mine.nd_tryCatch ?_; k_fold) | (with_reducible refine wpAny_attempt ?_; k_fold) | (with_reducible refine Mine.m_load (by first | exact PySem.W.X.Mem.at (by assumption) 0 _ _ rfl | exact PySem.W.X.Mem.at (by assumption) 1 _ _ rfl | exact PySem.W.X.Mem.at (by assumption) 2 _ _ rfl | exact PySem.W.X.Mem.at (by assumption) 3 _ _ rfl | exact PySem.W.X.Mem.old (by assumption) _ _ (by assumption) rfl) ?_) | ((with_reducible show wpAny _ _ (Sem.update _ _ _ _) _ _ _); first | (refine Mine.m_update (by assumption) 0 rfl _ rfl rfl ?_; intro _ _) | (refine Mine.m_update (by assumption) 1 rfl _ rfl rfl ?_; intro _ _) | (refine Mine.m_update (by assumption) 2 rfl _ rfl rfl ?_; intro _ _) | (refine Mine.m_update (by assumption) 3 rfl _ rfl rfl ?_; intro _ _)) | (first | ((with_reducible show wpAny _ _ (isSubtype _ _) _ _ _); first | refine wpAny_of_eq (Mine.q_sub_tuple) ?_ | refine wpAny_of_eq (Mine.q_sub_dict) ?_ | refine wpAny_of_eq (Mine.q_sub_type) ?_) | ((with_reducible show wpAny _ _ (typeOf (Value.type _)) _ _ _); first | refine wpAny_of_eq (Mine.q_ty_object) ?_) | ((with_reducible show wpAny _ _ (typeLookup (Value.type _) _) _ _ _); first | refine wpAny_of_eq (Mine.q_dict_iter) ?_ | refine wpAny_of_eq (Mine.q_sn_function) ?_ | refine wpAny_of_eq (Mine.q_sn_str) ?_ | refine wpAny_of_eq (Mine.q_sn_list) ?_ | refine wpAny_of_eq (Mine.q_sn_int) ?_ | refine wpAny_of_eq (Mine.q_sn_tuple) ?_ | refine wpAny_of_eq (Mine.q_sn_none) ?_ | refine wpAny_of_eq (Mine.q_sn_md) ?_) | ((with_reducible show wpAny _ _ (Builtin.extendedBase _) _ _ _); first | refine wpAny_of_eq (Mine.q_ext) ?_) | ((with_reducible show wpAny _ _ (Builtin.mroHook? _) _ _ _); first | refine wpAny_of_eq (Mine.q_hook) ?_) | ((with_reducible show wpAny _ _ (Builtin.Slots.givesWeak _) _ _ _); first | refine wpAny_of_eq (Mine.q_weak) ?_) | ((with_reducible show wpAny _ _ (Builtin.Slots.givesDict _) _ _ _); first | refine wpAny_of_eq (Mine.q_gdict) ?_) | ((with_reducible show wpAny _ _ (Builtin.Slots.varSize _) _ _ _); first | refine wpAny_of_eq (Mine.q_var) ?_) | ((with_reducible show wpAny _ _ (Builtin.Slots.bestBase _) _ _ _); first | refine wpAny_of_eq (Mine.q_best) ?_) | ((with_reducible show wpAny _ _ (Builtin.linearize _ _) _ _ _); first | refine wpAny_of_eq (Mine.q_lin) ?_) | ((with_reducible show wpAny _ _ (Bind.madeBy _) _ _ _); first | refine wpAny_of_eq (Mine.q_made) ?_) | ((with_reducible show wpAny _ _ (Builtin.notOverATurnedClass _) _ _ _); first | refine wpAny_of_eq (Mine.q_turned) ?_) | ((with_reducible show wpAny _ _ (Builtin.noteSubclassOfBuiltin _ _) _ _ _); first | refine wpAny_of_eq (Mine.q_note _) ?_) | ((with_reducible show wpAny _ _ (Builtin.Slots.slotNamesOf _) _ _ _); first | refine wpAny_of_eq (Mine.q_slotNames) ?_) | ((with_reducible show wpAny _ _ (classOwn (Value.type _) _) _ _ _); first | refine wpAny_of_eq (Mine.q_own_new) ?_)) | (with_reducible refine Mine.wpAny_ifF (by kernel_rfl!) ?_) | (with_reducible refine Mine.wpAny_ifT (by kernel_rfl!) ?_) | ((fail_if_success (first | (with_reducible show wpAny _ _ (isSubtype _ _) _ _ _) | (with_reducible show wpAny _ _ (typeOf (Value.type _)) _ _ _) | (with_reducible show wpAny _ _ (typeLookup (Value.type _) _) _ _ _) | (with_reducible show wpAny _ _ (Builtin.extendedBase _) _ _ _) | (with_reducible show wpAny _ _ (Builtin.mroHook? _) _ _ _) | (with_reducible show wpAny _ _ (Builtin.Slots.givesWeak _) _ _ _) | (with_reducible show wpAny _ _ (Builtin.Slots.givesDict _) _ _ _) | (with_reducible show wpAny _ _ (Builtin.Slots.varSize _) _ _ _) | (with_reducible show wpAny _ _ (Builtin.Slots.bestBase _) _ _ _) | (with_reducible show wpAny _ _ (Builtin.linearize _ _) _ _ _) | (with_reducible show wpAny _ _ (Bind.madeBy _) _ _ _) | (with_reducible show wpAny _ _ (Builtin.notOverATurnedClass _) _ _ _) | (with_reducible show wpAny _ _ (Builtin.noteSubclassOfBuiltin _ _) _ _ _) | (with_reducible show wpAny _ _ (Builtin.Slots.slotNamesOf _) _ _ _) | (with_reducible show wpAny _ _ (mroOf (Value.type _)) _ _ _) | (with_reducible show wpAny _ _ (classOwn (Value.type _) _) _ _ _) | (with_reducible show wpAny _ _ (Builtin.Slots.read _ _ _) _ _ _) | (with_reducible show wpAny _ _ (Sem.update _ _ _ _) _ _ _) | (with_reducible show wpAny _ _ (Sem.alloc _ _) _ _ _) | (with_reducible show wpAny _ _ (collect _) _ _ _) | (with_reducible show wpAny _ _ (call _ _ _) _ _ _) | (with_reducible show wpAny _ _ (Builtin.Slots.install _ _ _ _) _ _ _) | (with_reducible show wpAny _ _ (Bind.refreshMaker _) _ _ _))); (fail_if_success (first | (with_reducible show wpAny _ _ (getAttr? _ _) _ _ _) | (with_reducible show wpAny _ _ (classCode _ _ _ _ _ _) _ _ _) | (with_reducible show wpAny _ _ (builtinsFor _ _) _ _ _) | (with_reducible show wpAny _ _ (newBodyFrame _ _ _ _) _ _ _) | (with_reducible show wpAny _ _ (closureFor _ _) _ _ _) | (with_reducible show wpAny _ _ (enterFrame _) _ _ _) | (with_reducible show wpAny _ _ (storeName _ _ _) _ _ _) | (with_reducible show wpAny _ _ (loadName _ _) _ _ _) | (with_reducible show wpAny _ _ (run _ _) _ _ _) | (with_reducible show wpAny _ _ (newTuple _) _ _ _) | (with_reducible show wpAny _ _ (call _ _ _) _ _ _) | (with_reducible show wpAny _ _ (newTextTuple _) _ _ _))); k_node))
  have hok : h3.IsCode 20 16 #[] := ⟨_, _, _, _, _, _, _, _, _, _, up3 _ _ (KX 20 _ (by rfl)), rfl, rfl, rfl, rfl, rfl, rfl, up3 _ _ h16, rfl, ⟨⟩, by decide⟩
  refine wpAny_classCode e1 hok rfl ?_
  intro c Pk h4 tk4 x4 c4 p4 hd4 tp4 t16
  dsimp only at x4 c4 p4 t16
  have t16 := t16 (up3 _ _ h16)
  clear D
  show wpAny _ _ _ _ _ _
  have k4 : ∀ b o, b ≠ 16 → h.get? b = some o → h4.get? b = some o := fun b o z e => x4 b o z (up3 b o e)
  have lt3 : ∀ b o, h3.get? b = some o → b < h3.objs.size := fun b o e => Heap.lt_size e
  have neP : ∀ b o, h3.get? b = some o → b ≠ Pk := fun b o e => Nat.ne_of_lt (Nat.lt_of_lt_of_le (Heap.lt_size e) p4)
  have nec : ∀ b o, h3.get? b = some o → b ≠ c := fun b o e => Nat.ne_of_lt (Nat.lt_of_lt_of_le (Heap.lt_size e) c4)
  have ens : h4.get? nsA = some (dictOf [] 0) := x4 _ _ (fun z => by rw [z, h16] at fr3; cases fr3) e3'
  have ebt : h3.get? h.objs.size = some (tupO [.type "object"] 0) := k3 _ _ (k2 _ _ (Heap.get?_push_size _ rfl))
  have nb16 : h.objs.size ≠ 16 := Nat.ne_of_gt (Heap.lt_size h16)
  have nbn : h.objs.size ≠ nsA := fun z => by rw [← z, k2 _ _ (Heap.get?_push_size _ rfl)] at n3; cases n3
  refine at_prog (tailK w.params env nsA c h.objs.size t) (by kernel_rfl!) ?_
  refine tailT (h := h4) (bt := h.objs.size) (Pk := Pk) (c := c) (nsA := nsA) (tN := t) r e2 e3 e4 (hg.extBut (fun b o z e => k4 b o z e) (by decide)) hb4 hmn (hlim.extBut (fun b o z e => k4 b o z e) (by decide)) (fun a o e => k4 a o (lookup_filter _ a o e).2.1 (KX a o e))
    ens hd4 tp4 (x4 _ _ nb16 ebt) (fun a o e => ⟨fun z => by (have := KX a o e; rw [z, fr3] at this; cases this), fun z => neP _ _ (up3 _ _ (KX a o e)) z⟩) (neP _ _ e3') (nec _ _ e3') (fun z => by subst z; exact absurd rfl (by obtain ⟨_, _, _, _, _, _, _, _, _, _, _, _, _, _, _, _, _, _, q⟩ := hd4; exact q)) nbn (neP _ _ ebt) ?_
  intro C h5 tk5 kb5 th5 hK
  have th34 : there h h4 := fun b o e => by
    by_cases z : b = 16
    · subst z; exact ⟨_, t16⟩
    · exact ⟨o, k4 b o z e⟩
  have n16 : 16 ≠ nsA := fun z => by rw [← z, h16] at fr3; cases fr3
  have n16' : 16 ≠ Pk := neP _ _ (up3 _ _ h16)
  refine hq C h5 tk5 (fun b o z e => kb5 b o (fun z' => by rw [z', fr3] at e; cases e) (neP _ _ (up3 _ _ e)) (k4 b o z e)) (th34.trans th5) ?_ ?_
  · exact ⟨_, kb5 _ _ n16 n16' t16⟩
  · obtain ⟨ns, bt, tN, tQ, md, n, k, u, sl, sa, f, t1, t2, tm, pm, a1, a2, a3, a4, a5, a6, a7⟩ := hK
    exact ⟨ns, bt, tN, tQ, md, n, k, u, sl, sa, f, t1, t2, tm, pm, a1, a2, a3, a4.mono th34 (fun _ _ _ e => e), th34.none a5, th34.none a6, th34.none a7⟩
end
end Mine

-- part LKey
set_option maxRecDepth 100000
set_option maxHeartbeats 0
set_option pp.deepTerms false
set_option pp.maxSteps 1500
namespace Mine
open PySem PySem.W PySem.W.X PyProof.Rows PySem.Calls
section
variable {prog : Program} {w : World} {A : Around} {E : Value → Shared → Prop} {s : Shared} {I : Kn}
noncomputable def fd21 (P : Params) : FuncData := (fdOfO ((KK P).lookup 21)).getD default
noncomputable def env21 (P : Params) (L : Addr) : Env := newEnv (fd21 P).scope L (fd21 P).globals (cellsFrom (L + 1) (fd21 P).scope.names (fd21 P).closure) ((fd21 P).qualname ++ ".<locals>.") (some 21) (fd21 P).code none (fd21 P).builtins
noncomputable def namePos : Stmt → Pos
  | .ClassDef _ [.Name _ p] _ _ _ _ _ _ _ _ _ => p
  | _ => default
noncomputable def retPos : Stmt → Pos
  | .Return (some (.Name _ p)) _ => p
  | _ => default
noncomputable def retPos2 : Stmt → Pos
  | .Return _ p => p
  | _ => default
theorem fd21_body (P : Params) : (fd21 P).body = .stmts [kCls P, stAt P 21 1] := by kernel_rfl!
theorem kCls_eq2 (P : Params) : kCls P = .ClassDef "K" [.Name "object" (namePos (kCls P))] [] (bodyOf (kCls P)) [] [] (scopeOf (kCls P)) none "K" ["obj"] (posOf (kCls P)) := by kernel_rfl!
theorem ret21_eq (P : Params) : stAt P 21 1 = .Return (some (.Name "K" (retPos (stAt P 21 1)))) (retPos2 (stAt P 21 1)) := by kernel_rfl!
theorem obj21 (P : Params) : ∃ o, (KK P).lookup 21 = some o ∧ o.data = .func (fd21 P) := ⟨_, by rfl, by rfl⟩
theorem code20 (P : Params) : ∃ o vs t, (KK P).lookup 20 = some o ∧ o.data = .fields vs ∧ vs[1]? = some (.str (fd21 P).qualname t) := ⟨_, _, _, by rfl, by rfl, by rfl⟩
theorem keyT {mt : Addr} (k : Ok w.params I s.heap) (r : Room A 60) (h16 : s.heap.get? 16 = some (tableObj #[])) (i16 : I 16 = none) :
    wpAny (model prog w) A (call (.ref 21) [.ref mt]) (fun v s' => ∃ C h' tk cell, v = .ref C ∧ s' = { s with heap := h', toks := tk } ∧ GrowT 16 s.heap I h' (frz I s.heap h') ∧ (∃ ps, h'.get? 16 = some (tabObj ps)) ∧ KAt w s.heap h' C cell ∧ s.heap.get? cell = none ∧ h'.get? cell = some (cellO (some (.ref mt)))) NoE s := by
  obtain ⟨o, ho, hod⟩ := obj21 w.params
  obtain ⟨o2, vs2, t2, hc, hcd, hcv⟩ := code20 w.params
  refine enterC (fd := fd21 w.params) k r.lim (k.prog 21 _ ho (by decide) (by decide) (by decide)) hod ⟨20, _, _, _, by kernel_rfl!, k.prog 20 _ hc (by decide) (by decide) (by decide), hcd, hcv⟩ (fd21_body _) (x := "mycmp") (by kernel_rfl!) (fun L h₁ tk hL S => ?_) (by kernel_rfl!) (by intro _; kernel_rfl!) (by intro _; kernel_rfl!) (by kernel_rfl!) (by kernel_rfl!) (by kernel_rfl!)
  show wpAny _ _ (execs [kCls w.params, stAt w.params 21 1] (env21 w.params L)) _ _ _
  rw [kCls_eq2, ret21_eq]
  refine wpAny_execs_cons ?_
  rw [arm_exec_ClassDef]
  have r1 : Room (A.deeper (env21 w.params L)) 40 := Room.deeper (r.mono (by decide))
  have KX := S.ok.kp
  obtain ⟨gl1, gl2, vn, gl3⟩ := globs S.ok
  have gl4 : h₁.nsMap 3 "__builtins__" = some (.ref 4) := by
    have e3 : h₁.get? 3 = some _ := KX 3 _ (show (KP w.params).lookup 3 = some _ from by rfl)
    unfold Heap.nsMap; rw [e3]; kernel_rfl!
  have hcell := S.own _ (.head _)
  have hL' : ∀ b o, s.heap.get? b = some o → b ≠ 93 → h₁.get? b = some o := fun b o e z => S.base b o (by simpa using z) e
  have h93 : ∃ o, h₁.get? 93 = some o := tab_there S.ok.tab
  refine wpAny_bind (wpAny_pure ?_)
  refine wpAny_bind (wpAny_standAt ?_)
  refine wpAny_bind ?_
  unfold buildClassGuard
  refine wpAny_bind (nsGet_I (ns := 0) (name := "__build_class__") (r := some (.builtin "__build_class__")) (KX 0 _ (show (KP w.params).lookup 0 = some _ from by rfl)) (by kernel_rfl!) ?_)
  refine wpAny_pure ?_
  refine wpAny_bind (wpAny_holding (wpAny_bind ?_))
  unfold evalArgs
  show wpAny _ _ (spliced (backTo _ (starEach [Expr.Name (Str.ofString "object") (namePos (kCls w.params))] (env21 w.params L))) >>= _) _ _ _
  refine wpAny_bind (spliced_more (ldB S.ok (x := "object") (v := .type "object") (by kernel_rfl!) (by kernel_rfl!) (spliced_none ?_) (by kernel_rfl!) (by kernel_rfl!) (by kernel_rfl!) (by kernel_rfl!)))
  refine wpAny_bind (wpAny_pure ?_)
  refine wpAny_holding ?_
  refine wpAny_bind (wpAny_pure (wpAny_bind (wpAny_pure (wpAny_pure ?_))))
  refine wpAny_bind (wpAny_standAt (wpAny_holding ?_))
  show wpAny _ _ (buildClass "K" "cmp_to_key.<locals>.K" [.type "object"] [] (bodyOf (kCls w.params)) (scopeOf (kCls w.params)) ["obj"] 4 (env21 w.params L) (posOf (kCls w.params)) none) _ _ ⟨h₁, s.gens, s.drawn, tk, s.os⟩
  refine bkK (cell := L + 1) r1 KX (hL' _ _ h16 (by decide)) (by kernel_rfl!) (by kernel_rfl!) (by kernel_rfl!) (by kernel_rfl!) gl1 gl4 gl3 (nolimit (s := ⟨h₁, s.gens, s.drawn, tk, s.os⟩) S.ok) ?_
  intro C h2 tk2 k2 th2 t16 hK
  refine wpAny_bind (wpAny_pure ?_)
  refine wpAny_bind (wpAny_standAt ?_)
  have nL : L ≠ 16 := fun z => by have := S.newL; rw [z, h16] at this; cases this
  have ns2 : h2.Ns L (fun _ => none) := by
    obtain ⟨o, es, ep, e, rr⟩ := S.ns
    exact ⟨o, es, ep, k2 _ _ nL e, rr⟩
  refine wpAny_bind (wpAny_bindName (wpAny_storeName_local (env := env21 w.params L) (by kernel_rfl!) ns2 (fun h3 n3 s3 => wpAny_pure ?_) (by kernel_rfl!)))
  refine wpAny_execs_cons (wpAny_Return_some (wpAny_Name (wpAny_loadName_local (env := env21 w.params L) (by kernel_rfl!) (by kernel_rfl!) n3 (by rfl) ?_)))
  have s3' : ∀ b o, b ≠ L → h2.get? b = some o → h3.get? b = some o := fun b o z e => (s3.2 b z).trans e
  have old : ∀ b o, b ≠ 16 → b ≠ 93 → s.heap.get? b = some o → h3.get? b = some o := fun b o z z9 e =>
    s3' b o (fun z' => by have := S.newL; rw [← z', e] at this; cases this) (k2 b o z (hL' b o e z9))
  have tb3 : Tab I h3 := tab_keep S.ok.tab (fun o e => s3' _ _ (Ne.symm S.neL) (k2 _ _ (by decide) e)) (le.refl _)
  have th1 : there s.heap h₁ := fun b o e => by
    by_cases z : b = 93
    · subst z; exact h93
    · exact ⟨o, hL' b o e z⟩
  have nc : L + 1 ≠ L := Nat.succ_ne_self L
  refine ⟨C, h3, _, L + 1, rfl, rfl, frz_growT k.inh i16 k.t93 old tb3, ?_, ?_, hcell.2.2.2, s3' _ _ nc (k2 _ _ (fun z => by have := hcell.2.2.2; dsimp only at this; rw [z, h16] at this; cases this) hcell.1)⟩
  · obtain ⟨ps, e⟩ := t16
    exact ⟨ps, s3' _ _ (Ne.symm nL) e⟩
  · obtain ⟨ns, bt, tN, tQ, md, n, k, u, sl, sa, f, t1, t2, tm, pm, a1, a2, a3, a4, a5, a6, a7⟩ := hK
    have nn : ∀ b, h₁.get? b = none → b ≠ L := fun b e z => by have := S.ns.lt; obtain ⟨o, es, ep, e', _⟩ := S.ns; rw [z, e'] at e; cases e
    exact ⟨ns, bt, tN, tQ, md, n, k, u, sl, sa, f, t1, t2, tm, pm, s3' _ _ (nn _ a5) a1, s3' _ _ (nn _ a6) a2, s3' _ _ (nn _ a7) a3, a4.mono th1 (fun b o q e => s3' _ _ (nn _ q) e), th1.none a5, th1.none a6, th1.none a7⟩
end
end Mine

-- part LInst
set_option maxRecDepth 100000
set_option maxHeartbeats 0
set_option pp.deepTerms false
set_option pp.maxSteps 2500
namespace Mine
open PySem PySem.W PySem.W.X PyProof.Rows PySem.Calls
noncomputable abbrev mdO (C : Addr) (tm : Tok) : Obj := { cls := .type "member_descriptor", data := .fields #[.str "obj" tm, .ref C, .builtin "proto.slot", .builtin "proto.slot#set", rawInt 0] }
-- what stays known of the class K
inductive isKc (w : World) (I : Kn) (C mt : Addr) : Prop
  | mk (ns bt : Addr) (tN tQ : Tok) (md : Addr) (n : Nat) (k u : Nat → Tok) (sl sa : Addr) (f : Nat → Addr) (t1 t2 tm : Tok) (pm : Value) (cell : Addr) (a1 : I C = some (clsK C ns bt tN tQ)) (a2 : I ns = some (dictOf (entB w (eA w) k u sl sa f md t1 t2) n)) (a3 : I md = some (mdO C tm))
    (a4 : ∀ i, i < 6 → ∃ doc ctv c' o vs t, I (f i) = some (kFn w.params i cell doc pm c' ctv) ∧ I c' = some o ∧ o.data = .fields vs ∧ vs[1]? = some (.str (kQual i) t)) (a5 : I cell = some (cellO (some (.ref mt)))) : isKc w I C mt
theorem isKc.mono {w : World} {I J : Kn} {C mt : Addr} (h : isKc w I C mt) (l : le I J) : isKc w J C mt := by
  obtain ⟨ns, bt, tN, tQ, md, n, k, u, sl, sa, f, t1, t2, tm, pm, cell, a1, a2, a3, a4, a5⟩ := h
  exact ⟨ns, bt, tN, tQ, md, n, k, u, sl, sa, f, t1, t2, tm, pm, cell, l _ _ a1, l _ _ a2, l _ _ a3, fun i hi => by
    obtain ⟨doc, ctv, c', o, vs, t, b1, b2, b3⟩ := a4 i hi
    exact ⟨doc, ctv, c', o, vs, t, l _ _ b1, l _ _ b2, b3⟩, l _ _ a5⟩
theorem KAt.known {w : World} {I : Kn} {h h' : Heap} {C cell mt : Addr} (k : InH I h) (x : KAt w h h' C cell) (e1 : h.get? cell = none) (e2 : h'.get? cell = some (cellO (some (.ref mt)))) : isKc w (frz I h h') C mt := by
  obtain ⟨ns, bt, tN, tQ, md, n, kk, u, sl, sa, f, t1, t2, tm, pm, a1, a2, a3, a4, a5, a6, a7⟩ := x
  exact ⟨ns, bt, tN, tQ, md, n, kk, u, sl, sa, f, t1, t2, tm, pm, cell, frz_new k a5 a1, frz_new k a6 a2, frz_new k a7 a3, fun i hi => by
    obtain ⟨doc, ctv, c', o, vs, t, b1, b2, b3, b4, b5⟩ := a4.at_ i hi
    exact ⟨doc, ctv, c', o, vs, t, frz_new k b2 b1, frz_new k b3 b4, b5⟩, frz_new k e1 e2⟩
noncomputable def fragOf (I : Kn) : List Addr → Frag
  | [] => []
  | a :: as => match I a with
    | some o => (a, o) :: fragOf I as
    | none => fragOf I as
theorem fragOf_look {I : Kn} {a : Addr} {o : Obj} (e : I a = some o) : ∀ {as : List Addr}, a ∈ as → (fragOf I as).lookup a = some o
  | b :: as, h => by
    unfold fragOf
    by_cases q : a = b
    · subst q; rw [e]; simp only [List.lookup, beq_self_eq_true]
    · have hm : a ∈ as := by
        rcases List.mem_cons.mp h with h | h
        · exact absurd h q
        · exact h
      cases I b with
      | none => exact fragOf_look e hm
      | some o' => simp only [List.lookup, beq_eq_false_iff_ne.mpr q]; exact fragOf_look e hm
theorem fragOf_in {I : Kn} {h : Heap} (k : InH I h) : ∀ {as : List Addr}, (fragOf I as).In h
  | [], _, _, e => by cases e
  | b :: as, a, o, e => by
    unfold fragOf at e
    split at e
    · rename_i o' q
      simp only [List.lookup] at e
      split at e
      · rename_i z; cases e; rw [beq_iff_eq.mp z]; exact k _ _ q
      · exact fragOf_in k _ _ e
    · exact fragOf_in k _ _ e
section
variable {K : Frag} {w : World} {C ns bt md sl sa : Addr} {tN tQ t1 t2 tm : Tok} {n : Nat} {k u : Nat → Tok} {f : Nat → Addr}
theorem own_ns (hC : K.lookup C = some (clsK C ns bt tN tQ)) (name : Str) : ownIn K name (.ref C) = nsIn K ns name := by unfold ownIn; dsimp only; rw [hC]
theorem find_ns (hC : K.lookup C = some (clsK C ns bt tN tQ)) {name : Str} {v : Value} (e : nsIn K ns name = some (some v)) : findIn K (.ref C) name = some (some v) := by
  unfold findIn
  dsimp only
  rw [hC]
  show alongIn K name [.ref C, .type "object"] = _
  unfold alongIn
  rw [own_ns hC, e]
theorem find_obj (hC : K.lookup C = some (clsK C ns bt tN tQ)) {name : Str} {r : Option (Option Value)} (e : nsIn K ns name = some none) (e2 : alongIn [] name [.type "object"] = r) : findIn K (.ref C) name = r := by
  unfold findIn
  dsimp only
  rw [hC]
  show alongIn K name [.ref C, .type "object"] = _
  unfold alongIn
  rw [own_ns hC, e]
  exact e2
theorem mro_in (hC : K.lookup C = some (clsK C ns bt tN tQ)) : clsIn K C = some { name := "K", bases := [.type "object"], mro := [.ref C, .type "object"], ns := ns, qualname := "cmp_to_key.<locals>.K", hasDict := false, slotNames := ["obj"] } := by unfold clsIn; rw [hC]
theorem makes_K (hC : K.lookup C = some (clsK C ns bt tN tQ)) : makesIn K C = true := by
  unfold makesIn
  rw [hC]
  have a1 : specialIn K (.ref C) "__call__" = some (some (.builtin "type.__call__")) := by
    unfold specialIn typeIn
    dsimp only
    rw [hC]
    show findIn K (.type "type") "__call__" = _
    kernel_rfl!
  have a2 : instIn K (.ref C) (.type "type") = some true := by
    unfold instIn typeIn
    dsimp only
    rw [hC]
    show subIn K (.type "type") (.type "type") = _
    kernel_rfl!
  dsimp only
  rw [a1, a2]
  have a3 : [Value.ref C, .type "object"].contains (.ref C) = true := by simp
  have a4 : [Value.ref C, .type "object"].contains (.type "object") = true := by simp
  rw [a3, a4]
  kernel_rfl!
end
noncomputable abbrev instK_ (C dx : Addr) (v : Value) : Obj := { cls := .ref C, dict := some dx, data := .plain, slots := #[some v] }
inductive isKi (I : Kn) (v : Value) (C : Addr) (x : Value) : Prop
  | mk (a dx : Addr) (e : v = .ref a) (f : I a = some (instK_ C dx x)) (g : I dx = some emptyDict) : isKi I v C x
end Mine

-- part LInstA
set_option maxRecDepth 100000
set_option maxHeartbeats 0
set_option pp.deepTerms false
set_option pp.maxSteps 2500
namespace Mine
open PySem PySem.W PySem.W.X PyProof.Rows PySem.Calls
theorem pushCells_keep : ∀ (names : List (Str × NameKind)) (h : Heap) (b : Addr) (o : Obj), h.get? b = some o → (pushCells h names).get? b = some o
  | [], _, _, _, e => e
  | (_, kind) :: r, h, b, o, e => by
    unfold pushCells
    split
    · exact pushCells_keep r _ b o (Heap.get?_push_of_some _ e)
    · exact pushCells_keep r h b o e
section
variable {prog : Program} {w : World} {A : Around} {E : Value → Shared → Prop} {s : Shared} {I : Kn}
theorem newEnv_keep {M : Model} {P : Params} {scope : Scope} {globals : Addr} {cl : List (Str × Addr)} {binds : List (Str × Value)} {qual : Str} {func : Option Addr} {code : Value} {builtins : Addr} {Q : Env → Shared → Prop}
    (k : Ok P I s.heap) (hk : scope.kind = .function) (hl : ∀ x ∈ binds, scope.names.lookup x.1 = some .local)
    (hQ : ∀ h₁ tk, St P [93] s.heap I I s.heap.objs.size (fun x => binds.reverse.lookup x) (cellsM (s.heap.objs.size + 1) scope.names []) h₁ → (∀ b o, s.heap.get? b = some o → h₁.get? b = some o) →
      Q (newEnv scope s.heap.objs.size globals (cellsFrom (s.heap.objs.size + 1) scope.names cl) qual func code none builtins) { s with heap := h₁, toks := tk }) :
    wpAny M A (newFunctionEnv scope globals cl binds qual func code none builtins) Q E s := by
  have go : ∀ (c : Value) (env : Env), env.scope = scope → env.locals = s.heap.objs.size → (∀ h₁ tk, St P [93] s.heap I I s.heap.objs.size (fun x => binds.reverse.lookup x) (cellsM (s.heap.objs.size + 1) scope.names []) h₁ → (∀ b o, s.heap.get? b = some o → h₁.get? b = some o) → Q env { s with heap := h₁, toks := tk }) →
      wpAny M A (forIn binds PUnit.unit (fun x r => do let _ ← storeName env x.1 x.2; pure (ForInStep.yield PUnit.unit)) >>= fun _ => pure env) Q E { s with heap := pushCells (s.heap.push { cls := c, data := .dict #[] }) scope.names } := by
    intro c env e1 e2 hQ
    have S0 : St P [93] s.heap I I s.heap.objs.size (fun _ => none) (cellsM (s.heap.objs.size + 1) scope.names []) (pushCells (s.heap.push { cls := c, data := .dict #[] }) scope.names) := by
      have := St.cells scope.names _ _ (St.start (c := c) k)
      rwa [Heap.size_push] at this
    refine wpAny_bind (wpAny_forIn_list _ (fun rest _ s' => ∃ done h' tk, binds = done ++ rest ∧ s' = { s with heap := h', toks := tk } ∧ St P [93] s.heap I I s.heap.objs.size (fun x => done.reverse.lookup x) (cellsM (s.heap.objs.size + 1) scope.names []) h' ∧ ∀ b o, s.heap.get? b = some o → h'.get? b = some o) _ ?_ ?_ binds _
      ⟨[], _, _, rfl, rfl, S0, fun b o e => pushCells_keep _ _ _ _ (Heap.get?_push_of_some _ e)⟩)
    · rintro ⟨n, v⟩ rest b s' ⟨done, h', tk, eb, rfl, S, kp⟩
      have hn : env.kindOf n = some .local := by
        show env.scope.names.lookup n = _
        rw [e1]; exact hl (n, v) (by rw [eb]; simp)
      refine wpAny_bind (wpAny_storeName_local (m := fun x => done.reverse.lookup x) hn (by rw [e2]; exact S.ns) (fun h'' hn' hs' => ?_) (by rw [e1, hk]; rfl))
      rw [e2] at hn' hs'
      refine wpAny_pure ⟨done ++ [(n, v)], h'', _, by rw [eb]; simp, rfl, ?_, fun b o e => (hs'.2 b (fun z => by have := S.newL; rw [← z, e] at this; cases this)).trans (kp b o e)⟩
      rw [lookup_reverse_snoc]
      exact S.set hn' hs'
    · rintro b s' ⟨done, h', tk, eb, rfl, S, kp⟩
      rw [List.append_nil] at eb
      subst eb
      exact wpAny_pure (hQ _ _ S kp)
  have size1 : ∀ c : Value, ({ s with heap := s.heap.push { cls := c, data := .dict #[] } } : Shared).heap.objs.size = s.heap.objs.size + 1 := fun _ => Heap.size_push ..
  simp only [newFunctionEnv, Option.isSome_none, Bool.false_eq_true, if_false]
  refine wpAny_bind (wpAny_alloc ?_)
  refine wpAny_bind (wpAny_layCells _ (fun name kind cells => by cases hkc : kind == NameKind.cell <;> simp) _ _ _ _ ?_)
  rw [size1]
  exact go _ _ rfl rfl hQ
-- a def's call, as code
theorem enterQ {fd : FuncData} {f : Addr} {o : Obj} {pos : List Value} {binds : List (Str × Value)} {body : List Stmt} {R : Result → Shared → Prop}
    (k : Ok w.params I s.heap) (hr : A.depth < recursionLimit) (ho : I f = some o) (hdata : o.data = .func fd) (hcd : CodeI I fd.code fd.qualname) (hbody : fd.body = .stmts body) (hbind : bindArgs fd ⟨pos, []⟩ = pure binds)
    (hl : ∀ x ∈ binds, fd.scope.names.lookup x.1 = some .local)
    (h : ∀ L h₁ tk, L = s.heap.objs.size → St w.params [93] s.heap I I L (fun x => binds.reverse.lookup x) (cellsM (L + 1) fd.scope.names []) h₁ → (∀ b o, s.heap.get? b = some o → h₁.get? b = some o) →
      wpAny (model prog w) (A.deeper (envF fd f L))
        (execs body (envF fd f L))
        (fun fl s' => R (.ok (.ret (match fl with | .ret v => v | _ => .none))) s') NoE { s with heap := h₁, toks := tk })
    (hco : fd.scope.isCoroutine = false) (hgen : fd.scope.isGenerator = false) (hk : fd.scope.kind = .function) :
    codeAny (model prog w) A (.call (.ref f) ⟨pos, []⟩) R s := by
  refine codeAny_call_function hr (k.inh _ _ ho) hdata hco hgen hbody (hcd.rec k.inh) ?_
  rw [hbind]
  refine wpAny_pure (newEnv_keep k hk hl fun h₁ tk S kp => ⟨nolimit (S.ok), codeAny_func ?_⟩)
  exact wpAny_mono (h _ h₁ tk rfl S kp) (fun _ _ x => x) fun _ _ f => f.elim
end
end Mine

-- part LInstB
set_option maxRecDepth 100000
set_option maxHeartbeats 0
set_option pp.deepTerms false
set_option pp.maxSteps 2500
namespace Mine
open PySem PySem.W PySem.W.X PyProof.Rows PySem.Calls
-- class K among what stays
structure KL (w : World) (K : Frag) (I : Kn) (C mt : Addr) where
  ns : Addr
  md : Addr
  cell : Addr
  f : Nat → Addr
  C_ : ∃ bt tN tQ, K.lookup C = some (clsK C ns bt tN tQ)
  ns_ : ∃ k u sl sa t1 t2 n, K.lookup ns = some (dictOf (entB w (eA w) k u sl sa f md t1 t2) n)
  md_ : ∃ tm, K.lookup md = some (mdO C tm)
  f_ : ∀ i, i = 0 ∨ i = 1 ∨ i = 4 → ∃ doc ctv c' pm, K.lookup (f i) = some (kFn w.params i cell doc pm c' ctv) ∧ I (f i) = some (kFn w.params i cell doc pm c' ctv) ∧ CodeI I (.ref c') (kQual i)
  cell_ : I cell = some (cellO (some (.ref mt)))
theorem isKc.frag {w : World} {I : Kn} {C mt : Addr} (h : isKc w I C mt) : ∃ as, Nonempty (KL w (fragOf I as) I C mt) := by
  obtain ⟨ns, bt, tN, tQ, md, n, k, u, sl, sa, f, t1, t2, tm, pm, cell, a1, a2, a3, a4, a5⟩ := h
  refine ⟨[C, ns, md, f 0, f 1, f 4], ⟨⟨ns, md, cell, f, ⟨bt, tN, tQ, fragOf_look a1 (by simp)⟩, ⟨k, u, sl, sa, t1, t2, n, fragOf_look a2 (by simp)⟩, ⟨tm, fragOf_look a3 (by simp)⟩, fun i hi => ?_, a5⟩⟩⟩
  obtain ⟨doc, ctv, c', o, vs, t, b1, b2, b3, b4⟩ := a4 i (by omega)
  refine ⟨doc, ctv, c', pm, fragOf_look b1 (by rcases hi with rfl | rfl | rfl <;> simp), b1, c', o, vs, t, rfl, b2, b3, b4⟩
section
variable {w : World} {K : Frag} {I : Kn} {C mt : Addr} (Y : KL w K I C mt)
include Y
theorem KL.find {name : Str} {v : Value} (e : ∀ k u sl sa t1 t2 n, lookIn name (dictOf (entB w (eA w) k u sl sa Y.f Y.md t1 t2) n) = some (some v)) : findIn K (.ref C) name = some (some v) := by
  obtain ⟨bt, tN, tQ, hC⟩ := Y.C_
  obtain ⟨k, u, sl, sa, t1, t2, n, hns⟩ := Y.ns_
  refine find_ns hC ?_
  unfold nsIn
  rw [hns]
  exact e k u sl sa t1 t2 n
theorem KL.find0 {name : Str} {r : Option (Option Value)} (e : ∀ k u sl sa t1 t2 n, lookIn name (dictOf (entB w (eA w) k u sl sa Y.f Y.md t1 t2) n) = some none) (e2 : alongIn [] name [.type "object"] = r) : findIn K (.ref C) name = r := by
  obtain ⟨bt, tN, tQ, hC⟩ := Y.C_
  obtain ⟨k, u, sl, sa, t1, t2, n, hns⟩ := Y.ns_
  refine find_obj hC ?_ e2
  unfold nsIn
  rw [hns]
  exact e k u sl sa t1 t2 n
theorem KL.makes : makesIn K C = true := by
  obtain ⟨bt, tN, tQ, hC⟩ := Y.C_
  exact makes_K hC
theorem KL.cls : ∃ cd, clsIn K C = some cd ∧ cd.mro = [.ref C, .type "object"] ∧ cd.slotNames = [Str.ofString "obj"] := by
  obtain ⟨bt, tN, tQ, hC⟩ := Y.C_
  exact ⟨_, mro_in hC, rfl, rfl⟩
theorem KL.fn {i : Nat} (hi : i = 0 ∨ i = 1 ∨ i = 4) : typeIn K (.ref (Y.f i)) = some (.type "function") := by
  obtain ⟨_, _, _, _, h, _⟩ := Y.f_ i hi
  unfold typeIn
  dsimp only
  rw [h]; rfl
theorem KL.mdT : typeIn K (.ref Y.md) = some (.type "member_descriptor") := by
  obtain ⟨tm, h⟩ := Y.md_
  unfold typeIn
  dsimp only
  rw [h]; rfl
theorem KL.mdSp {name : Str} {r : Option (Option Value)} (e : findIn [] (.type "member_descriptor") name = r) : specialIn K (.ref Y.md) name = r := by
  unfold specialIn
  rw [Y.mdT]
  exact e
theorem KL.takes : takesIn K (.ref Y.md) = some true := by
  unfold takesIn
  rw [Y.mdSp (r := some (some (.builtin "member_descriptor.__set__"))) (by kernel_rfl!)]
theorem KL.slot : slotIn K Y.md C = some 0 := by
  obtain ⟨tm, h⟩ := Y.md_
  obtain ⟨cd, h1, h2, h3⟩ := Y.cls
  unfold slotIn recIn
  rw [h, h1]
  show (if ("proto.slot" == "proto.slot" && "proto.slot#set" == "proto.slot#set" && !cd.mro.isEmpty && cd.mro.contains (.ref C) && decide ((0 : Int).toNat < cd.slotNames.length)) = true then some (cd.slotNames.length - 1 - (0 : Int).toNat) else none) = some 0
  rw [h2, h3]
  simp
theorem KL.over : plainOver K C = true := by
  obtain ⟨cd, h1, h2, h3⟩ := Y.cls
  unfold plainOver
  rw [h1]
  show onlyObject cd.mro = true
  rw [h2]; rfl
theorem KL.obj : findIn K (.ref C) "obj" = some (some (.ref Y.md)) := Y.find (fun _ _ _ _ _ _ _ => by kernel_rfl!)
theorem KL.taker : takerIn K C "obj" = some (some (.ref Y.md)) := by
  unfold takerIn
  rw [Y.obj]
  show Option.map _ (takesIn K (.ref Y.md)) = _
  rw [Y.takes]; rfl
theorem KL.plain : plainGet K C "obj" = true := by
  unfold plainGet
  rw [Y.find0 (name := "__getattribute__") (r := some (some (.builtin "object.__getattribute__"))) (fun _ _ _ _ _ _ _ => by kernel_rfl!) (by kernel_rfl!), Y.find0 (name := "__getattr__") (r := some none) (fun _ _ _ _ _ _ _ => by kernel_rfl!) (by kernel_rfl!)]
  rfl
end
section
variable {prog : Program} {w : World} {A : Around} {E : Value → Shared → Prop} {s : Shared} {I : Kn} {K : Frag} {C mt : Addr}
-- k.obj
theorem getObj {x dx : Addr} {v : Value} {expr : Bool} {Q : Value → Shared → Prop} (X : K.In s.heap) (Y : KL w K I C mt) (h1 : s.heap.get? x = some (instK_ C dx v)) (h2 : s.heap.get? dx = some emptyDict) (hh : handedIn v = true) (h : Q v { s with toks := s.toks + 1 }) :
    wpAny (model prog w) A (getAttr (.ref x) "obj" expr) Q E s := by
  have Ia : InstAt s.heap x (instK_ C dx v) C (some emptyDict) := ⟨h1, rfl, rfl, h2⟩
  obtain ⟨cd, hc, _⟩ := Y.cls
  exact get_bind X Ia (plainGet_of Y.plain).1 (findObj_data (by rw [hc]; rfl) Y.obj (Y.mdSp (by kernel_rfl!)) Y.takes) (plainGet_of Y.plain).2 (wpAny_call (slot_get (s := { s with toks := s.toks + 1 }) X Ia Y.slot rfl (handed_on hh h)))
end
end Mine

-- part LInstC
set_option maxRecDepth 100000
set_option maxHeartbeats 0
set_option pp.deepTerms false
set_option pp.maxSteps 2500
namespace Mine
open PySem PySem.W PySem.W.X PyProof.Rows PySem.Calls
noncomputable def sp1 : List Stmt → Pos
  | [.Assign [.Attribute (.Name _ p) _ _] _ _] => p
  | _ => default
noncomputable def sp2 : List Stmt → Pos
  | [.Assign [.Attribute _ _ p] _ _] => p
  | _ => default
noncomputable def sp3 : List Stmt → Pos
  | [.Assign _ (.Name _ p) _] => p
  | _ => default
noncomputable def sp4 : List Stmt → Pos
  | [.Assign _ _ p] => p
  | _ => default
theorem initB (P : Params) : bodyOf (kSt P 2) = [.Assign [.Attribute (.Name "self" (sp1 (bodyOf (kSt P 2)))) "obj" (sp2 (bodyOf (kSt P 2)))] (.Name "obj" (sp3 (bodyOf (kSt P 2)))) (sp4 (bodyOf (kSt P 2)))] := by kernel_rfl!
section
variable {prog : Program} {w : World} {A : Around} {E : Value → Shared → Prop} {s : Shared} {I : Kn} {C mt : Addr}
theorem mkI {row : Value} (k : Ok w.params I s.heap) (r : Room A 20) (hK : isKc w I C mt) : Ends prog w A I (call (.ref C) [row]) (fun I' v => isKi I' v C row) s := by
  obtain ⟨as, ⟨Y⟩⟩ := hK.frag
  have X : (fragOf I as).In s.heap := fragOf_in k.inh
  obtain ⟨h, g, d, t, os⟩ := s
  dsimp only at k X
  have hi : findIn (fragOf I as) (.ref C) "__init__" = some (some (.ref (Y.f 0))) := Y.find (fun _ _ _ _ _ _ _ => by kernel_rfl!)
  obtain ⟨doc, ctv, c', pm, hf1, hf2, hcd⟩ := Y.f_ 0 (.inl rfl)
  refine wpAny_call (make_core (makes_of X Y.makes) (looks_findIn X hi) (fun self => bind_fn X self (Y.fn (.inl rfl))) (.inl rfl) ?_)
  have hk1 : ∀ b o, h.get? b = some o → ((h.push emptyDict).push (instObj C h.objs.size)).get? b = some o := fun b o e => Heap.get?_push_of_some _ (Heap.get?_push_of_some _ e)
  have k1 : Ok w.params I ((h.push emptyDict).push (instObj C h.objs.size)) := (Grow.silent k hk1).ok k
  have z1 : (h.push emptyDict).objs.size = h.objs.size + 1 := Heap.size_push ..
  have z2 : ((h.push emptyDict).push (instObj C h.objs.size)).objs.size = h.objs.size + 2 := by rw [Heap.size_push, z1]
  have ex : ((h.push emptyDict).push (instObj C h.objs.size)).get? (h.objs.size + 1) = some (instObj C h.objs.size) := by rw [← z1]; exact Heap.get?_push_size _ rfl
  have ed : ((h.push emptyDict).push (instObj C h.objs.size)).get? h.objs.size = some emptyDict := Heap.get?_push_of_some _ (Heap.get?_push_size _ rfl)
  have hr : (A.under (.builtin "type.__call__" ⟨.ref C :: [row], []⟩)).depth < recursionLimit := by
    show A.depth + 1 < recursionLimit
    have := r.dp; unfold recursionLimit; omega
  refine enterQ (s := ⟨(h.push emptyDict).push (instObj C h.objs.size), g, d, t, os⟩) (binds := [("self", .ref (h.objs.size + 1)), ("obj", row)]) k1 hr hf2 rfl hcd rfl (by kernel_rfl!) (locs (by kernel_rfl!)) (fun L h₁ tk hL S kp => ?_) (by kernel_rfl!) (by kernel_rfl!) (by kernel_rfl!)
  rw [initB]
  dsimp only at hL S kp
  refine wpAny_execs_cons (plainObj_wpAny_Assign_Attribute (ld S (v := row) (by rfl) (ld S (v := .ref (h.objs.size + 1)) (by rfl) ?_ (by kernel_rfl!) (by kernel_rfl!) (by kernel_rfl!)) (by kernel_rfl!) (by kernel_rfl!) (by kernel_rfl!)) (by kernel_rfl!))
  have F : Fr h L h₁ _ := ⟨S.ns, fun b o e => kp b o (hk1 b o e), by rw [hL, z2]; omega⟩
  have nx : ∀ j, h.get? (h.objs.size + j) = none := fun j => Heap.get?_none_of_le (Nat.le_add_right _ _)
  have N : News h L h₁ [(h.objs.size + 1, instObj C h.objs.size), (h.objs.size, emptyDict)] := by
    intro p hp
    rcases List.mem_cons.mp hp with rfl | hp
    · exact ⟨kp _ _ ex, by rw [hL, z2]; exact Nat.ne_of_lt (Nat.lt_succ_self _), nx 1⟩
    · rcases List.mem_cons.mp hp with rfl | hp
      · exact ⟨kp _ _ ed, by rw [hL, z2]; exact Nat.ne_of_lt (Nat.lt_add_of_pos_right (by decide)), nx 0⟩
      · cases hp
  refine set_slot (K := fragOf I as) (h₀ := h) (L := L) (C := C) (p := Y.md) (i := 0) (ox := instObj C h.objs.size) (od := emptyDict) (ox' := instK_ C h.objs.size row) (news' := [(h.objs.size + 1, instK_ C h.objs.size row), (h.objs.size, emptyDict)]) F X N ⟨kp _ _ ex, rfl, rfl, kp _ _ ed⟩
    (Y.find0 (fun _ _ _ _ _ _ _ => by kernel_rfl!) (by kernel_rfl!)) Y.over Y.taker Y.mdT Y.slot (by decide) rfl rfl (.head (fun p hp => by rcases List.mem_cons.mp hp with rfl | hp; exact Nat.ne_of_lt (Nat.lt_succ_self _); cases hp)) ?_
  intro h' F' N'
  refine wpAny_execs_nil ⟨rfl, ?_⟩
  refine ⟨frz I h h', ⟨h', _, rfl, frz_grow k F'.keep⟩, _, _, rfl, frz_new k.inh (nx 1) (N' _ (.head _)).1, frz_new k.inh (nx 0) (N' _ (.tail _ (.head _))).1⟩
-- TupleComp(keys)
theorem mkComp {kl : Addr} {keys : List (Nat × Int)} (k : Ok w.params I s.heap) (r : Room A 20) (hk : isKeys I (.ref kl) keys) :
    Ends prog w A I (call (.ref 54) [.ref kl]) (fun I' v => isComp I' v keys) s := by
  have X := k.kp
  have mk1 : makesIn (KP w.params) 54 = true := by kernel_rfl!
  have mk2 : findIn (KP w.params) (.ref 54) "__init__" = some (some (.ref 44)) := by kernel_rfl!
  have mk3 : typeIn (KP w.params) (.ref 44) = some (.type "function") := by kernel_rfl!
  obtain ⟨h, g, d, t, os⟩ := s
  dsimp only at k X
  refine wpAny_call (make_core (C := 54) (init := .ref 44) (makes_of X mk1) (looks_findIn X mk2) (fun self => bind_fn X self mk3) (.inl rfl) ?_)
  have hk1 : ∀ b o, h.get? b = some o → ((h.push emptyDict).push (instObj 54 h.objs.size)).get? b = some o := fun b o e => Heap.get?_push_of_some _ (Heap.get?_push_of_some _ e)
  have k1 : Ok w.params I ((h.push emptyDict).push (instObj 54 h.objs.size)) := (Grow.silent k hk1).ok k
  have z1 : (h.push emptyDict).objs.size = h.objs.size + 1 := Heap.size_push ..
  have z2 : ((h.push emptyDict).push (instObj 54 h.objs.size)).objs.size = h.objs.size + 2 := by rw [Heap.size_push, z1]
  have ex : ((h.push emptyDict).push (instObj 54 h.objs.size)).get? (h.objs.size + 1) = some (instObj 54 h.objs.size) := by rw [← z1]; exact Heap.get?_push_size _ rfl
  have ed : ((h.push emptyDict).push (instObj 54 h.objs.size)).get? h.objs.size = some emptyDict := Heap.get?_push_of_some _ (Heap.get?_push_size _ rfl)
  have hr : (A.under (.builtin "type.__call__" ⟨.ref 54 :: [.ref kl], []⟩)).depth < recursionLimit := by
    show A.depth + 1 < recursionLimit
    have := r.dp; unfold recursionLimit; omega
  refine enterQ (s := ⟨(h.push emptyDict).push (instObj 54 h.objs.size), g, d, t, os⟩) (binds := [("self", .ref (h.objs.size + 1)), ("comp_select_list", .ref kl)]) k1 hr (k.prog 44 _ (by rfl) (by decide) (by decide) (by decide)) rfl ⟨43, _, _, _, by rfl, k.prog 43 _ (by rfl) (by decide) (by decide) (by decide), by rfl, by rfl⟩ rfl (by rfl) (locs (by rfl)) (fun L h₁ tk hL S kp => ?_) (by rfl) (by rfl) (by rfl)
  dsimp only at hL S kp
  refine wpAny_execs_cons (plainObj_wpAny_Assign_Attribute (ld S (v := .ref kl) (by rfl) (ld S (v := .ref (h.objs.size + 1)) (by rfl) ?_)) (by rfl))
  have F : Fr h L h₁ _ := ⟨S.ns, fun b o e => kp b o (hk1 b o e), by rw [hL, z2]; omega⟩
  have nx : ∀ j, h.get? (h.objs.size + j) = none := fun j => Heap.get?_none_of_le (Nat.le_add_right _ _)
  have N : News h L h₁ [(h.objs.size + 1, instObj 54 h.objs.size), (h.objs.size, emptyDict)] := by
    intro p hp
    rcases List.mem_cons.mp hp with rfl | hp
    · exact ⟨kp _ _ ex, by rw [hL, z2]; exact Nat.ne_of_lt (Nat.lt_succ_self _), nx 1⟩
    · rcases List.mem_cons.mp hp with rfl | hp
      · exact ⟨kp _ _ ed, by rw [hL, z2]; exact Nat.ne_of_lt (Nat.lt_add_of_pos_right (by decide)), nx 0⟩
      · cases hp
  refine set_dict (K := KP w.params) (h₀ := h) (L := L) (C := 54) (ox := instObj 54 h.objs.size) (es := []) (n := 0) (dx := h.objs.size) F X N ⟨kp _ _ ex, rfl, rfl, kp _ _ ed⟩ rfl
    (by kernel_rfl!) (by kernel_rfl!) (by kernel_rfl!) (by kernel_rfl!) rfl rfl (.tail (by exact Nat.succ_ne_self _) (.head (fun p hp => nomatch hp))) (Nat.le_of_ble_eq_true rfl) ?_
  intro h' F' N'
  refine wpAny_execs_nil ⟨rfl, ?_⟩
  refine ⟨frz I h h', ⟨h', _, rfl, frz_grow k F'.keep⟩, _, _, _, _, _, _, rfl, frz_new k.inh (nx 1) (N' _ (.head _)).1, frz_new k.inh (nx 0) (N' _ (.tail _ (.head _))).1, hk.mono frz_le⟩
end
end Mine

-- part LCall
set_option maxRecDepth 100000
set_option maxHeartbeats 0
set_option pp.deepTerms false
set_option pp.maxSteps 2500
namespace Mine
open PySem PySem.W PySem.W.X PyProof.Rows PySem.Calls
section
variable {M : Model} {A : Around} {E : Value → Shared → Prop} {s : Shared} {I : Kn} {env : Env} {pos : Pos}
def Keeps (M : Model) (I : Kn) (f : Value) : Prop := ∀ h, InH I h → ∃ k, (k = Keeper.frame ∨ k = Keeper.machine ∨ k = Keeper.boundFrame) ∧ Looks M h (keeperOf f) k
theorem keep_fn {f : Addr} {c : Value} {d : Option Addr} {fd : FuncData} {sl : Array (Option Value)} (e : I f = some ⟨c, d, .func fd, sl⟩) : Keeps M I (.ref f) := fun _ k => ⟨.frame, .inl rfl, (Looks.ld (part := none) (k _ _ e)).andThen .now⟩
theorem keep_meth {q f : Addr} {self : Value} {c : Value} {d : Option Addr} {fd : FuncData} {sl : Array (Option Value)} (e : I q = some (methodObj (.ref f) self)) (e' : I f = some ⟨c, d, .func fd, sl⟩) : Keeps M I (.ref q) := fun _ k =>
  ⟨.boundFrame, .inr (.inr rfl), (Looks.ld (part := none) (k _ _ e)).andThen ((Looks.ld (part := none) (k _ _ e')).andThen .now)⟩
theorem keep_frag {f : Value} {as : List Addr} (e : keepIn (fragOf I as) f = true) : Keeps M I f := fun h k => keeps_K e h (fragOf_in k)
-- f(e, ..)
theorem callN {f : Value} {e : PySem.Expr} {rest : List PySem.Expr} {Q : Value → Shared → Prop} (hk : Keeps M I f)
    (h : wpAny M A (spliced (backTo pos (starEach (e :: rest) env))) (fun vs s₁ => InH I s₁.heap ∧ wpAny M A (call f vs) Q E s₁) E s)
    (he : starEach (e :: rest) env = (false, eval e env) :: starEach rest env := by rfl) (hplain : (backTo pos (starEach rest env)).any (·.1) = false := by rfl) :
    wpAny M A (callWith pos f [] (backTo pos (starEach (e :: rest) env)) []) Q E s := by
  rw [he] at h ⊢
  exact callWith_of (by show ((false || (backTo pos (starEach rest env)).any (·.1)) || false) = false; rw [hplain]; rfl) hk (evalArgs_plain h)
end
section
variable {prog : Program} {w : World} {A : Around} {E : Value → Shared → Prop} {s : Shared} {I : Kn} {C mt : Addr}
theorem KL.keepC {K : Frag} (Y : KL w K I C mt) : keepIn K (.ref C) = true := by
  obtain ⟨bt, tN, tQ, hC⟩ := Y.C_
  unfold keepIn
  dsimp only
  rw [hC]
  have a1 : specialIn K (.ref C) "__call__" = some (some (.builtin "type.__call__")) := by
    unfold specialIn typeIn
    dsimp only
    rw [hC]
    show findIn K (.type "type") "__call__" = _
    kernel_rfl!
  dsimp only
  rw [a1]; rfl
noncomputable def cps : List Stmt → List Pos
  | [.Return (some (.Compare (.Call (.Name _ p1) [.Attribute (.Name _ p2) _ p3, .Attribute (.Name _ p4) _ p5] _ p6) _ [.Constant _ _ p7] p8)) p9] => [p1, p2, p3, p4, p5, p6, p7, p8, p9]
  | _ => []
noncomputable def cq (P : Params) (i j : Nat) : Pos := (cps (bodyOf (kSt P (i + 2)))).getD j default
noncomputable def opOf : Nat → CmpOp
  | 1 => .Lt
  | _ => .LtE
theorem cmpB (P : Params) (i : Nat) (hi : i = 1 ∨ i = 4) : bodyOf (kSt P (i + 2)) = [.Return (some (.Compare (.Call (.Name "mycmp" (cq P i 0)) [.Attribute (.Name "self" (cq P i 1)) "obj" (cq P i 2), .Attribute (.Name "other" (cq P i 3)) "obj" (cq P i 4)] [] (cq P i 5)) [opOf i] [.Constant (.int 0) 0 (cq P i 6)] (cq P i 7))) (cq P i 8)] := by
  rcases hi with rfl | rfl <;> kernel_rfl!
noncomputable def resOf (i : Nat) (c : Int) : Bool := match i with
  | 1 => decide (c < 0)
  | _ => decide (c ≤ 0)
theorem obj51 (P : Params) : ∃ c d fd sl, (KK P).lookup 51 = some ⟨c, d, .func fd, sl⟩ := ⟨_, _, _, _, by rfl⟩
-- K.__lt__ and K.__le__
theorem cmpMeth {K : Frag} {as : List Addr} (hKK : K = fragOf I as) (Y : KL w K I C mt) {i : Nat} (hi : i = 1 ∨ i = 4) {k1 k2 x1 x2 cv : Value} {a b : Row} {keys : List (Nat × Int)} (k : Ok w.params I s.heap) (r : Room A 20)
    (h1 : isKi I k1 C x1) (h2 : isKi I k2 C x2) (r1 : isRow prog w I x1 a) (r2 : isRow prog w I x2 b) (hm : I mt = some (methodObj (.ref 51) cv)) (hc : isComp I cv keys) (hk : ∀ k ∈ keys, KeyOk k) :
    Ends prog w A I (call (.ref (Y.f i)) [k1, k2]) (fun _ v => v = .bool (resOf i (cmpK keys a b))) s := by
  obtain ⟨y1, d1, rfl, g1, g2⟩ := h1
  obtain ⟨y2, d2, rfl, g3, g4⟩ := h2
  obtain ⟨doc, ctv, c', pm, f1, f2, f3⟩ := Y.f_ i (by omega)
  have hcell := Y.cell_
  have two : ∀ {p : Nat → Prop}, p 1 → p 4 → p i := fun h1 h4 => by
    rcases hi with rfl | rfl
    · exact h1
    · exact h4
  have q1 := two (p := fun i => bindArgs (fnX (mName i) (kQual i) (argsOf (kSt w.params (i + 2))) (bodyOf (kSt w.params (i + 2))) (scopeOf (kSt w.params (i + 2))) (kClos i Y.cell) .none .none doc pm none (.ref c') ctv) (⟨[Value.ref y1, Value.ref y2], []⟩ : Args) = (pure [(Str.ofString "self", Value.ref y1), (Str.ofString "other", Value.ref y2)] : Sem (List (Str × Value)))) (by kernel_rfl!) (by kernel_rfl!)
  have q2 := two (p := fun i => (([(Str.ofString "self", Value.ref y1), (Str.ofString "other", Value.ref y2)] : List (Str × Value)).all fun x => decide ((scopeOf (kSt w.params (i + 2))).names.lookup x.1 = some .local)) = true) (by kernel_rfl!) (by kernel_rfl!)
  have q3 := two (p := fun i => ∀ L, cellsM (L + 1) (scopeOf (kSt w.params (i + 2))).names [] = []) (fun _ => by kernel_rfl!) (fun _ => by kernel_rfl!)
  have q4 := two (p := fun i => (scopeOf (kSt w.params (i + 2))).isCoroutine = false) (by kernel_rfl!) (by kernel_rfl!)
  have q5 := two (p := fun i => (scopeOf (kSt w.params (i + 2))).isGenerator = false) (by kernel_rfl!) (by kernel_rfl!)
  have q6 := two (p := fun i => (scopeOf (kSt w.params (i + 2))).kind = .function) (by kernel_rfl!) (by kernel_rfl!)
  have q7 := two (p := fun i => ∀ L, (cellsFrom (L + 1) (scopeOf (kSt w.params (i + 2))).names (kClos i Y.cell)).lookup (Str.ofString "mycmp") = some Y.cell) (fun _ => by kernel_rfl!) (fun _ => by kernel_rfl!)
  have q8 := two (p := fun i => (scopeOf (kSt w.params (i + 2))).names.lookup (Str.ofString "mycmp") = some .free) (by kernel_rfl!) (by kernel_rfl!)
  have q9 := two (p := fun i => (scopeOf (kSt w.params (i + 2))).names.lookup (Str.ofString "self") = some .local) (by kernel_rfl!) (by kernel_rfl!)
  have q10 := two (p := fun i => (scopeOf (kSt w.params (i + 2))).names.lookup (Str.ofString "other") = some .local) (by kernel_rfl!) (by kernel_rfl!)
  refine enter (fun _ => []) k r.lim f2 rfl f3 rfl q1 (locs q2) (fun L h₁ tk hL S => ?_) q3 q4 q5 q6
  rw [cmpB _ i hi]
  have X : K.In h₁ := hKK ▸ fragOf_in S.ok.inh
  refine wpAny_execs_cons (wpAny_Return_some (wpAny_Compare1 (Call_Name rfl (ldCell (q7 L) (S.ok.inh _ _ hcell) ?_ q6 (.inr q8))) ?_))
  · obtain ⟨oc, od, ofd, osl, e51⟩ := obj51 w.params
    have i51 := k.prog 51 _ e51 (by decide) (by decide) (by decide)
    have hx1 : handedIn x1 = true := by obtain ⟨_, _, _, _, _, _, _, _, rfl, _⟩ := r1; rfl
    have hx2 : handedIn x2 = true := by obtain ⟨_, _, _, _, _, _, _, _, rfl, _⟩ := r2; rfl
    refine callN (keep_meth hm i51) (spliced_more (Attribute_name (ld S (v := .ref y1) (by rfl) (getObj X Y (S.ok.inh _ _ g1) (S.ok.inh _ _ g2) hx1 (spliced_more (Attribute_name (ld S (v := .ref y2) (by rfl) (getObj X Y (S.ok.inh _ _ g3) (S.ok.inh _ _ g4) hx2 (spliced_none ⟨S.ok.inh, ?_⟩)) q6 q10 rfl)))) q6 q9 rfl)))
    refine wpAny_call (method_call (S.ok.inh _ _ hm) (codeAny_mono (compareE (A := A.deeper _) S.ok (Room.deeper (r.mono (by decide))) hc r1 r2 hk) fun res s' hr => ?_))
    rcases res with e | (_ | _ | _ | v) <;> first | exact hr.elim | skip
    obtain ⟨I', ⟨h', tk', rfl, g⟩, t, rfl⟩ := hr
    refine wpAny_Constant_int ?_
    have S' := S.grow g
    have fin : ∀ bo : Bool, bo = resOf i (cmpK keys a b) → ∃ I'', GrowS s I { s with heap := h', toks := tk' + 1 } I'' ∧ Value.bool bo = .bool (resOf i (cmpK keys a b)) := fun bo e => ⟨I', ⟨h', _, rfl, S'.exit⟩, by rw [e]⟩
    rcases hi with rfl | rfl
    · exact PyProof.Rows.lt_int (fin _ rfl)
    · exact PyProof.Rows.le_int (fin _ rfl)
  · rcases hi with rfl | rfl <;> rfl
end
end Mine

-- part LKcmp
set_option maxRecDepth 100000
set_option maxHeartbeats 0
set_option pp.deepTerms false
set_option pp.maxSteps 2500
namespace Mine
open PySem PySem.W PySem.W.X PyProof.Rows PySem.Calls
-- the class K made of compare of a TupleComp
inductive isKey' (w : World) (I : Kn) (C : Addr) (keys : List (Nat × Int)) : Prop
  | mk (mt : Addr) (cv : Value) (h1 : isKc w I C mt) (h2 : I mt = some (methodObj (.ref 51) cv)) (h3 : isComp I cv keys) : isKey' w I C keys
theorem isComp.mono {I J : Kn} {v : Value} {keys : List (Nat × Int)} (h : isComp I v keys) (l : le I J) : isComp J v keys := by
  obtain ⟨a, d, n, kl, t, hs, e, h1, h2, h3⟩ := h
  exact ⟨a, d, n, kl, t, hs, e, l _ _ h1, l _ _ h2, h3.mono l⟩
theorem isKey'.mono {w : World} {I J : Kn} {C : Addr} {keys : List (Nat × Int)} (h : isKey' w I C keys) (l : le I J) : isKey' w J C keys := by
  obtain ⟨mt, cv, h1, h2, h3⟩ := h
  exact ⟨mt, cv, h1.mono l, l _ _ h2, h3.mono l⟩
theorem isKi.mono {I J : Kn} {v : Value} {C : Addr} {x : Value} (h : isKi I v C x) (l : le I J) : isKi J v C x := by
  obtain ⟨a, d, e, h1, h2⟩ := h
  exact ⟨a, d, e, l _ _ h1, l _ _ h2⟩
section
variable {prog : Program} {w : World} {A : Around} {E : Value → Shared → Prop} {s : Shared} {I : Kn} {C : Addr} {k1 k2 x1 x2 : Value} {a b : Row} {keys : List (Nat × Int)}
-- K(x1) <= K(x2)
theorem leK (k : Ok w.params I s.heap) (r : Room A 20) (hK : isKey' w I C keys) (h1 : isKi I k1 C x1) (h2 : isKi I k2 C x2) (r1 : isRow prog w I x1 a) (r2 : isRow prog w I x2 b) (hk : ∀ k ∈ keys, KeyOk k) :
    Ends prog w A I (compareOp .LtE k1 k2) (fun _ v => v = .bool (decide (cmpK keys a b ≤ 0))) s := by
  obtain ⟨mt, cv, hc, hm, hcv⟩ := hK
  obtain ⟨as, ⟨Y⟩⟩ := hc.frag
  have X : (fragOf I as).In s.heap := fragOf_in k.inh
  have hf : findIn (fragOf I as) (.ref C) "__le__" = some (some (.ref (Y.f 4))) := Y.find (fun _ _ _ _ _ _ _ => by kernel_rfl!)
  have call4 := cmpMeth (prog := prog) (A := A) rfl Y (.inr rfl : (4 : Nat) = 1 ∨ (4 : Nat) = 4) k r h1 h2 r1 r2 hm hcv hk
  obtain ⟨y1, d1, rfl, g1, g2⟩ := h1
  obtain ⟨y2, d2, rfl, g3, g4⟩ := h2
  have I1 : InstAt s.heap y1 (instK_ C d1 x1) C (some emptyDict) := ⟨k.inh _ _ g1, rfl, rfl, k.inh _ _ g2⟩
  have I2 : InstAt s.heap y2 (instK_ C d2 x2) C (some emptyDict) := ⟨k.inh _ _ g3, rfl, rfl, k.inh _ _ g4⟩
  have fn : isFn (fragOf I as) (.ref (Y.f 4)) = true := by unfold isFn; rw [Y.fn (.inr (.inr rfl))]; rfl
  have one : wpAny (model prog w) A (tryCompare (.ref y1) "__le__" (.ref y2)) (fun r s' => ∃ v, r = some v ∧ ∃ I', GrowS s I s' I' ∧ v = .bool (decide (cmpK keys a b ≤ 0))) NoE s := by
    unfold tryCompare
    refine wpAny_bind (ifBound_K X I1 hf fn (wpAny_mono call4 (fun v s' hv => ?_) fun _ _ e => e))
    obtain ⟨I', g, rfl⟩ := hv
    exact wpAny_pure ⟨_, rfl, I', g, rfl⟩
  show wpAny _ _ (richCompare .LtE _ _) _ _ _
  unfold richCompare
  simp only [oneThing_ref]
  refine wpAny_holding (wpAny_bind (wpAny_cRoomFor r.line ?_))
  refine wpAny_bind (I1.type.here (wpAny_bind (I2.type.here ?_)))
  rw [if_neg (by simp)]
  refine wpAny_bind (wpAny_pure ?_)
  simp only [Bool.false_eq_true, if_false]
  refine wpAny_bind (wpAny_mono one (fun r s' z => ?_) fun _ _ e => e)
  obtain ⟨v, rfl, hq⟩ := z
  exact wpAny_pure hq
-- the sort's look at two keys
theorem ltKey (k : Ok w.params I s.heap) (r : Room A 20) (hK : isKey' w I C keys) (h1 : isKi I k1 C x1) (h2 : isKi I k2 C x2) (r1 : isRow prog w I x1 a) (r2 : isRow prog w I x2 b) (hk : ∀ k ∈ keys, KeyOk k) :
    Ends prog w A I (keyLt' oneType' k1 k2) (fun _ v => v = decide (cmpK keys a b < 0)) s := by
  obtain ⟨mt, cv, hc, hm, hcv⟩ := hK
  obtain ⟨as, ⟨Y⟩⟩ := hc.frag
  have X : (fragOf I as).In s.heap := fragOf_in k.inh
  have hf : findIn (fragOf I as) (.ref C) "__lt__" = some (some (.ref (Y.f 1))) := Y.find (fun _ _ _ _ _ _ _ => by kernel_rfl!)
  have call1 := cmpMeth (prog := prog) (A := A) rfl Y (.inl rfl : (1 : Nat) = 1 ∨ (1 : Nat) = 4) k r h1 h2 r1 r2 hm hcv hk
  obtain ⟨y1, d1, rfl, g1, g2⟩ := h1
  have I1 : InstAt s.heap y1 (instK_ C d1 x1) C (some emptyDict) := ⟨k.inh _ _ g1, rfl, rfl, k.inh _ _ g2⟩
  have fn : isFn (fragOf I as) (.ref (Y.f 1)) = true := by unfold isFn; rw [Y.fn (.inr (.inl rfl))]; rfl
  rw [keyLt'_oneType, oneLt'_eq]
  simp only [if_true]
  refine wpAny_bind (wpAny_cRoomFor r.line ?_)
  refine wpAny_bind (ifBound_K X I1 hf fn (wpAny_mono call1 (fun v s' hv => ?_) fun _ _ e => e))
  obtain ⟨I', g, rfl⟩ := hv
  exact wpAny_truthy_bool ⟨I', g, rfl⟩
end
end Mine

-- part LSort
set_option maxRecDepth 100000
set_option maxHeartbeats 0
namespace Mine
open PySem PySem.W
noncomputable def evalT {α : Type} (n : Nat) (lt : Nat → Nat → Bool) : KasT α → Option α
  | .ret a => some a
  | .ask i j k => if (Nat.blt i n && Nat.blt j n) = true then evalT n lt (k (lt i j)) else none
theorem evalT_wp {α : Type} {n : Nat} {lt : Nat → Nat → Bool} {cmp : Nat → Nat → (Bool → Shared → Prop) → Shared → Prop} {V : Shared → Prop} {Q : α → Shared → Prop}
    (hc : ∀ i j C s, i < n → j < n → V s → (∀ s', V s' → C (lt i j) s') → cmp i j C s) : ∀ (t : KasT α) (a : α) (s : Shared), evalT n lt t = some a → V s → (∀ s', V s' → Q a s') → t.kasWp cmp Q s
  | .ret b, a, s, e, hs, hq => by cases e; exact hq s hs
  | .ask i j k, a, s, e, hs, hq => by
    unfold evalT at e
    split at e
    · rename_i h
      obtain ⟨h1, h2⟩ := Bool.and_eq_true_iff.mp h
      exact hc i j _ s (Nat.lt_of_lt_of_le (Nat.lt_succ_self i) (Nat.le_of_ble_eq_true h1)) (Nat.lt_of_lt_of_le (Nat.lt_succ_self j) (Nat.le_of_ble_eq_true h2)) hs fun s' hs' => evalT_wp hc (k (lt i j)) a s' e hs' hq
    · cases e
noncomputable def ranks (n : Nat) : Nat → List (List Nat)
  | 0 => [[]]
  | m + 1 => (ranks n m).flatMap fun l => (List.range n).map fun x => x :: l
noncomputable def ltR (r : List Nat) (i j : Nat) : Bool := Nat.blt (r.getD i 0) (r.getD j 0)
noncomputable def okPair (r : List Nat) : List Nat → Bool
  | [] => true
  | i :: l => l.all (fun j => ltR r i j || (!ltR r j i && Nat.blt i j)) && okPair r l
noncomputable def checkSort (n : Nat) (r : List Nat) : Bool := match evalT n (ltR r) (kas_sort n) with
  | some p => p.toList.isPerm (List.range n) && okPair r p.toList
  | none => false
noncomputable def canon (n : Nat) (r : List Nat) : Bool := (List.range n).all fun i => Nat.beq (r.getD i 0) ((List.range n).filter fun j => ltR r j i).length
noncomputable def checkR (n : Nat) (r : List Nat) : Bool := !canon n r || checkSort n r
theorem check2 : (ranks 2 2).all (checkR 2) = true := by decide +kernel
theorem check3 : (ranks 3 3).all (checkR 3) = true := by decide +kernel
theorem check4 : (ranks 4 4).all (checkR 4) = true := by decide +kernel
noncomputable def chk5 (y : Nat) : Bool := (ranks 5 3).all fun l => (List.range 5).all fun x => checkR 5 (x :: y :: l)
theorem check50 : chk5 0 = true := by decide +kernel
theorem check51 : chk5 1 = true := by decide +kernel
theorem check52 : chk5 2 = true := by decide +kernel
theorem check53 : chk5 3 = true := by decide +kernel
theorem check54 : chk5 4 = true := by decide +kernel
theorem check5 : (ranks 5 5).all (checkR 5) = true := by
  rw [List.all_eq_true]
  intro r hr
  obtain ⟨l1, h1, hr⟩ := List.mem_flatMap.mp (show r ∈ (ranks 5 4).flatMap fun l => (List.range 5).map fun x => x :: l from hr)
  obtain ⟨x, hx, rfl⟩ := List.mem_map.mp hr
  obtain ⟨l, hl, h1⟩ := List.mem_flatMap.mp (show l1 ∈ (ranks 5 3).flatMap fun l => (List.range 5).map fun y => y :: l from h1)
  obtain ⟨y, hy, rfl⟩ := List.mem_map.mp h1
  have hy5 := List.mem_range.mp hy
  have c : chk5 y = true := by
    have : y = 0 ∨ y = 1 ∨ y = 2 ∨ y = 3 ∨ y = 4 := by omega
    rcases this with rfl | rfl | rfl | rfl | rfl
    · exact check50
    · exact check51
    · exact check52
    · exact check53
    · exact check54
  exact List.all_eq_true.mp (List.all_eq_true.mp c l hl) x hx
theorem check_all {n : Nat} (h2 : 2 ≤ n) (h5 : n ≤ 5) : (ranks n n).all (checkR n) = true := by
  match n, h2, h5 with
  | 2, _, _ => exact check2
  | 3, _, _ => exact check3
  | 4, _, _ => exact check4
  | 5, _, _ => exact check5
theorem mem_ranks (n : Nat) : ∀ (m : Nat) (l : List Nat), l.length = m → (∀ x ∈ l, x < n) → l ∈ ranks n m
  | 0, l, e, _ => by rw [List.length_eq_zero_iff.mp e]; exact .head _
  | m + 1, [], e, _ => by cases e
  | m + 1, x :: l, e, h => by
    unfold ranks
    refine List.mem_flatMap.mpr ⟨l, mem_ranks n m l (by simpa using e) fun y hy => h y (.tail _ hy), List.mem_map.mpr ⟨x, List.mem_range.mpr (h x (.head _)), rfl⟩⟩
theorem evalT_congr {α : Type} {n : Nat} {lt lt' : Nat → Nat → Bool} (h : ∀ i j, i < n → j < n → lt i j = lt' i j) : ∀ (t : KasT α), evalT n lt t = evalT n lt' t
  | .ret _ => rfl
  | .ask i j k => by
    unfold evalT
    split
    · rename_i q
      obtain ⟨h1, h2⟩ := Bool.and_eq_true_iff.mp q
      rw [h i j (Nat.le_of_ble_eq_true h1) (Nat.le_of_ble_eq_true h2)]
      exact evalT_congr h _
    · rfl
-- a strict weak order on the first n numbers, as ranks
theorem rank_of {n : Nat} {lt : Nat → Nat → Bool} (as : ∀ i j, i < n → j < n → lt i j = true → lt j i = false) (nt : ∀ i j k, i < n → j < n → k < n → lt i k = true → lt i j = true ∨ lt j k = true) :
    ∃ r : List Nat, r.length = n ∧ (∀ x ∈ r, x < n) ∧ (∀ i j, i < n → j < n → ltR r i j = lt i j) ∧ ∀ i, i < n → r.getD i 0 = ((List.range n).filter fun j => lt j i).length := by
  have cnt : ∀ i, ((List.range n).filter fun j => lt j i).length ≤ n := fun i => by
    have := List.length_filter_le (fun j => lt j i) (List.range n); simpa using this
  refine ⟨(List.range n).map fun i => ((List.range n).filter fun j => lt j i).length, by simp, fun x hx => ?_, fun i j hi hj => ?_, fun i hi => by simp [List.getD, hi]⟩
  · obtain ⟨i, hi, rfl⟩ := List.mem_map.mp hx
    have hi := List.mem_range.mp hi
    have irr : lt i i = false := by
      cases q : lt i i with
      | false => rfl
      | true => have := as i i hi hi q; rw [q] at this; cases this
    have : ((List.range n).filter fun j => lt j i).length < (List.range n).length := by
      refine List.length_filter_lt_length_iff_exists.mpr ⟨i, List.mem_range.mpr hi, by simp [irr]⟩
    simpa using this
  · have get : ∀ i, i < n → ((List.range n).map fun i => ((List.range n).filter fun j => lt j i).length).getD i 0 = ((List.range n).filter fun j => lt j i).length := fun i hi => by
      simp [List.getD, hi]
    unfold ltR
    rw [get i hi, get j hj]
    have irr : ∀ i, i < n → lt i i = false := fun i hi => by
      cases q : lt i i with
      | false => rfl
      | true => have := as i i hi hi q; rw [q] at this; cases this
    have le : ∀ i j, i < n → j < n → lt j i = false → ((List.range n).filter fun k => lt k i).length ≤ ((List.range n).filter fun k => lt k j).length := by
      intro i j hi hj h
      refine (List.Sublist.length_le ?_)
      have : ((List.range n).filter fun k => lt k i) = (((List.range n).filter fun k => lt k j).filter fun k => lt k i) := by
        rw [List.filter_filter]
        refine List.filter_congr fun k hk => ?_
        have hk := List.mem_range.mp hk
        cases q : lt k i with
        | false => simp
        | true =>
          rcases nt k j i hk hj hi q with q' | q'
          · simp [q']
          · rw [h] at q'; cases q'
      rw [this]
      exact List.filter_sublist
    cases q : lt i j with
    | true =>
      have h1 := as i j hi hj q
      have h2 : ((List.range n).filter fun k => lt k i).length < ((List.range n).filter fun k => lt k j).length := by
        have e : ((List.range n).filter fun k => lt k i) = (((List.range n).filter fun k => lt k j).filter fun k => lt k i) := by
          rw [List.filter_filter]
          refine List.filter_congr fun k hk => ?_
          have hk := List.mem_range.mp hk
          cases q : lt k i with
          | false => simp
          | true =>
            rcases nt k j i hk hj hi q with q' | q'
            · simp [q']
            · rw [h1] at q'; cases q'
        rw [e]
        exact List.length_filter_lt_length_iff_exists.mpr ⟨i, List.mem_filter.mpr ⟨List.mem_range.mpr hi, q⟩, by simp [irr i hi]⟩
      exact Nat.ble_eq_true_of_le h2
    | false =>
      have := le j i hj hi q
      cases z : Nat.blt ((List.range n).filter fun k => lt k i).length ((List.range n).filter fun k => lt k j).length with
      | false => rfl
      | true => have := Nat.le_of_ble_eq_true z; omega
theorem ok_pair {r : List Nat} : ∀ {l : List Nat}, okPair r l = true → l.Pairwise (fun i j => ltR r i j = true ∨ (ltR r j i = false ∧ i < j))
  | [], _ => List.Pairwise.nil
  | i :: l, h => by
    unfold okPair at h
    obtain ⟨h1, h2⟩ := Bool.and_eq_true_iff.mp h
    refine List.pairwise_cons.mpr ⟨fun j hj => ?_, ok_pair h2⟩
    have := List.all_eq_true.mp h1 j hj
    simp only [Bool.or_eq_true, Bool.and_eq_true, Bool.not_eq_true'] at this
    exact this.imp id fun x => ⟨x.1, Nat.le_of_ble_eq_true x.2⟩
-- the machine's sort of n things is stable
theorem sort_stable {n : Nat} (h2 : 2 ≤ n) (h5 : n ≤ 5) {lt : Nat → Nat → Bool} (as : ∀ i j, i < n → j < n → lt i j = true → lt j i = false) (nt : ∀ i j k, i < n → j < n → k < n → lt i k = true → lt i j = true ∨ lt j k = true) :
    ∃ p : List Nat, evalT n lt (kas_sort n) = some p.toArray ∧ p.Perm (List.range n) ∧ p.Pairwise (fun i j => lt i j = true ∨ (lt j i = false ∧ i < j)) := by
  obtain ⟨r, e1, e2, e3, e4⟩ := rank_of as nt
  have := List.all_eq_true.mp (check_all h2 h5) r (mem_ranks n n r e1 e2)
  have hc : canon n r = true := by
    unfold canon
    refine List.all_eq_true.mpr fun i hi => ?_
    have hi := List.mem_range.mp hi
    rw [e4 i hi]
    have : ((List.range n).filter fun j => ltR r j i) = (List.range n).filter fun j => lt j i := List.filter_congr fun j hj => e3 j i (List.mem_range.mp hj) hi
    rw [this]
    exact Nat.beq_refl _
  unfold checkR at this
  rw [hc, Bool.not_true, Bool.false_or] at this
  unfold checkSort at this
  rw [evalT_congr (lt' := lt) e3] at this
  split at this
  · rename_i p hp
    obtain ⟨t1, t3⟩ := Bool.and_eq_true_iff.mp this
    have perm : p.toList.Perm (List.range n) := List.isPerm_iff.mp t1
    refine ⟨p.toList, by rw [hp], perm, (ok_pair t3).imp_of_mem fun {i j} hi hj h => ?_⟩
    have hi := List.mem_range.mp (perm.mem_iff.mp hi)
    have hj := List.mem_range.mp (perm.mem_iff.mp hj)
    rw [e3 i j hi hj, e3 j i hj hi] at h
    exact h
  · cases this
end Mine

-- part LSortSt
set_option maxRecDepth 100000
set_option maxHeartbeats 0
set_option pp.deepTerms false
set_option pp.maxSteps 2500
namespace Mine
open PySem PySem.W PySem.W.X PyProof.Rows PySem.Calls
-- the order of the places behind a sort
def SortedIdx (b : Bool) (n : Nat) (lt : Nat → Nat → Bool) (q : List Nat) : Prop :=
  q.Perm (List.range n) ∧ q.Pairwise (fun x y => if b then (lt y x = true ∨ (lt x y = false ∧ x < y)) else (lt x y = true ∨ (lt y x = false ∧ x < y)))
theorem sorted_small {b : Bool} {n : Nat} {lt : Nat → Nat → Bool} (h : n < 2) : SortedIdx b n lt (List.range n) := by
  refine ⟨List.Perm.refl _, ?_⟩
  match n, h with
  | 0, _ => exact List.Pairwise.nil
  | 1, _ => exact List.pairwise_singleton _ _
noncomputable def flip (b : Bool) (n i : Nat) : Nat := if b then n - 1 - i else i
theorem flip_lt {b : Bool} {n i : Nat} (h : i < n) : flip b n i < n := by unfold flip; split <;> omega
theorem sorted_idx (b : Bool) {n : Nat} (h2 : 2 ≤ n) (h5 : n ≤ 5) {lt : Nat → Nat → Bool} (as : ∀ i j, i < n → j < n → lt i j = true → lt j i = false) (nt : ∀ i j k, i < n → j < n → k < n → lt i k = true → lt i j = true ∨ lt j k = true) :
    ∃ p : List Nat, evalT n (fun i j => lt (flip b n i) (flip b n j)) (kas_sort n) = some p.toArray ∧ p.length = n ∧ (∀ i ∈ p, i < n) ∧ SortedIdx b n lt (if b then (p.map (flip b n)).reverse else p.map (flip b n)) := by
  obtain ⟨p, e1, e2, e3⟩ := sort_stable h2 h5 (lt := fun i j => lt (flip b n i) (flip b n j)) (fun i j hi hj => as _ _ (flip_lt hi) (flip_lt hj)) (fun i j k hi hj hk => nt _ _ _ (flip_lt hi) (flip_lt hj) (flip_lt hk))
  have hp : ∀ i ∈ p, i < n := fun i hi => List.mem_range.mp (e2.mem_iff.mp hi)
  refine ⟨p, e1, by simpa using e2.length_eq, hp, ?_⟩
  cases b with
  | false =>
    have : p.map (flip false n) = p := by
      have : ∀ l : List Nat, l.map (flip false n) = l := fun l => by induction l with | nil => rfl | cons a l ih => rw [List.map_cons, ih]; rfl
      exact this p
    rw [if_neg (by simp), this]
    exact ⟨e2, e3.imp fun {x y} h => by rw [if_neg (by simp)]; exact h⟩
  | true =>
    rw [if_pos rfl]
    constructor
    · refine (List.reverse_perm _).trans ((e2.map _).trans ?_)
      have : (List.range n).map (flip true n) = (List.range n).reverse := by
        apply List.ext_getElem
        · simp
        · intro i h1 h2
          simp at h1
          simp [flip, h1]
      rw [this]
      exact List.reverse_perm _
    · rw [List.pairwise_reverse, List.pairwise_map]
      refine e3.imp_of_mem fun {x y} hx hy h => ?_
      rw [if_pos rfl]
      have h1 := hp x hx
      have h2 := hp y hy
      rcases h with h | ⟨h, h'⟩
      · exact .inl h
      · refine .inr ⟨h, ?_⟩
        unfold flip
        simp only [if_true]
        omega
section
variable {P : Params} {prog : Program} {w : World} {A : Around} {E : Value → Shared → Prop} {s : Shared} {X : List Addr} {h₀ : Heap} {I₀ I : Kn} {L : Addr} {m : Str → Option Value} {mu : List (Addr × Obj)}
noncomputable abbrev lsO (xs : Array Value) (n : Nat) : Obj := seqObj "list" xs n
theorem tailSt {kS D : Addr} {b : Bool} {e1 e : Nat} {ks : Array Value} {st : SortSt} {out : List Value} {F : PySem.Fin → Shared → Prop} (S : St P X h₀ I₀ I L m ((kS, lsO ks e) :: (D, lsO #[] e1) :: mu) s.heap) (hz : ks.size ≤ 100) (hz2 : out.length ≤ 100)
    (ho : (if b then ((arrOf st).map (·.2)).reverse else (arrOf st).map (·.2)) = out.toArray) (hf : failedOf st = none)
    (hq : ∀ h' tk c, St P X h₀ I₀ I L m ((D, lsO out.toArray c) :: mu) h' → F (.done (.ret .none)) { s with heap := h', toks := tk }) :
    wpAny (model prog w) A (ksk_tail D b e1 (.ref kS) st) F E s := by
  have nk := (S.own _ (.head _)).1
  unfold ksk_tail
  obtain ⟨c1, hc1⟩ : ∃ c1, (s.heap.update kS (Obj.mapSeq fun _ => (#[] : Array Value))).get? kS = some (lsO #[] c1) := ⟨_, get?_update_seq nk fun _ => #[]⟩
  have S1 := (S.upd (Heap.SameBut.update s.heap kS (Obj.mapSeq fun _ => (#[] : Array Value))) hc1).drop
  have na := (S1.own _ (.head _)).1
  obtain ⟨c2, hc2⟩ : ∃ c2, ((s.heap.update kS (Obj.mapSeq fun _ => (#[] : Array Value))).update D (Obj.mapSeq fun _ => out.toArray)).get? D = some (lsO out.toArray c2) := ⟨_, get?_update_seq na fun _ => out.toArray⟩
  have S2 := S1.upd (Heap.SameBut.update _ D (Obj.mapSeq fun _ => out.toArray)) hc2
  refine wpAny_bind (listUpdate_at nk rfl ?_ (by rw [sizeLine_eq]; omega) (Nat.zero_le _))
  refine wpAny_bind (wpAny_letGo ?_)
  refine wpAny_bind (seqEpoch_at na rfl ?_)
  simp only [ho]
  refine wpAny_bind (listUpdate_at na rfl ?_ (Nat.zero_le _) (by rw [List.size_toArray, sizeLine_eq]; omega))
  rw [hf]
  simp only [bne_self_eq_false, Bool.false_eq_true, if_false]
  exact wpAny_pure (hq _ _ c2 S2)
theorem item_flip {b : Bool} {ks vs : List Value} (hn : ks.length = vs.length) {i : Nat} (hi : i < vs.length) :
    kas_item (if b then (ks.toArray.zip vs.toArray).reverse else ks.toArray.zip vs.toArray) i = (ks.getD (flip b vs.length i) Value.none, vs.getD (flip b vs.length i) Value.none) := by
  have hz : (ks.zip vs).length = vs.length := by rw [List.length_zip, hn, Nat.min_self]
  have get : ∀ j, j < vs.length → (ks.zip vs)[j]? = some (ks.getD j Value.none, vs.getD j Value.none) := fun j hj => by
    rw [List.getElem?_eq_getElem (by omega), List.getElem_zip]
    simp [List.getD, hj, (by omega : j < ks.length)]
  have toA : (if b then (ks.toArray.zip vs.toArray).reverse else ks.toArray.zip vs.toArray) = (if b then (ks.zip vs).reverse else ks.zip vs).toArray := by
    cases b <;> simp
  rw [toA]
  unfold kas_item
  have : (if b then (ks.zip vs).reverse else ks.zip vs)[i]? = some (ks.getD (flip b vs.length i) Value.none, vs.getD (flip b vs.length i) Value.none) := by
    cases b with
    | false => exact get i hi
    | true =>
      rw [if_pos rfl, List.getElem?_reverse (by omega), hz]
      exact get _ (flip_lt (b := true) hi)
  rw [Array.getD_eq_getD_getElem?, List.getElem?_toArray, this]
  rfl
-- sorted(l, key=.., reverse=..) of up to five things
theorem sortedSt {l : Addr} {vs : List Value} {ep : Nat} {q : Addr} {b : Bool} {T : Value} {KV : Kn → Value → Nat → Prop} {lt : Nat → Nat → Bool} {Q : Value → Shared → Prop}
    (S : St P X h₀ I₀ I L m mu s.heap) (hl : I l = some (listO vs ep)) (h5 : vs.length ≤ 5)
    (key : ∀ i v s₁ I₁, vs[i]? = some v → le I I₁ → Ok P I₁ s₁.heap → Same s s₁ → Ends prog w A.in1.in1 I₁ (call (.ref q) [v]) (fun I₂ kv => KV I₂ kv i) s₁)
    (kvm : ∀ I₁ I₂ kv i, KV I₁ kv i → le I₁ I₂ → KV I₂ kv i) (kvt : ∀ I₁ kv i h, KV I₁ kv i → InH I₁ h → Looks (model prog w) h (typeOf kv) T) (hT1 : (T != Value.type "tuple") = true) (hT2 : (T == T) = true)
    (cmp : ∀ i j ki kj s₁ I₁, i < vs.length → j < vs.length → KV I₁ ki i → KV I₁ kj j → le I I₁ → Ok P I₁ s₁.heap → Same s s₁ → Ends prog w A.in1.in1 I₁ (keyLt' oneType' ki kj) (fun _ r => r = lt i j) s₁)
    (as : ∀ i j, i < vs.length → j < vs.length → lt i j = true → lt j i = false) (nt : ∀ i j k, i < vs.length → j < vs.length → k < vs.length → lt i k = true → lt i j = true ∨ lt j k = true)
    (hq : ∀ D h' tk I' c qs, le I I' → SortedIdx b vs.length lt qs → St P X h₀ I₀ I' L m ((D, lsO (qs.map fun i => vs.getD i Value.none).toArray c) :: mu) h' → Q (.ref D) { s with heap := h', toks := tk }) :
    wpAny (model prog w) A (call (.builtin "sorted") [.ref l] [("key", .ref q), ("reverse", .bool b)]) Q E s := by
  have hl' : s.heap.IsList l vs.toArray := ⟨_, S.ok.inh _ _ hl, rfl, ep, rfl⟩
  refine call_function_entry_kw kind_sorted plain_sorted entry_sorted (ksk_s2 _ _ _) ?_
  unfold Builtin.«sorted»
  refine wpAny_bind (m := checkCount "sorted" 1 1 _) (wpAny_pure ?_)
  refine wpAny_bind (collect_list hl' ?_ (by rw [sizeLine_eq]; omega))
  refine wpAny_bind (wpAny_newList ?_ (by rw [sizeLine_eq]; omega))
  generalize hh1 : (s.heap.push (seqObj "list" #[] 0)).update s.heap.objs.size (Obj.mapSeq (· ++ vs.toArray)) = h1
  have k1 : ∀ b o, s.heap.get? b = some o → h1.get? b = some o := fun b o e => by
    have hlt : b < s.heap.objs.size := Heap.lt_size e
    rw [← hh1, Heap.get?_update_ne _ _ _ _ (Nat.ne_of_lt hlt), Heap.get?_push_ne _ _ _ (Nat.ne_of_lt hlt)]
    exact e
  have S1 := (S.silent k1).push (o := lsO vs.toArray 0) rfl
  dsimp only
  generalize hD : h1.objs.size = D at S1 ⊢
  generalize hh2 : h1.push (lsO vs.toArray 0) = h2 at S1 ⊢
  have o2 := (S1.own _ (.head _)).1
  refine wpAny_bind (wpAny_holding (wpAny_call_entry_kw slot_list_sort ⟨_, o2, rfl⟩ entry_list_sort ?_ (ksk_l2 _ _ _)))
  show wpAny (model prog w) A.in1.in1 (Builtin.«list.sort» ⟨[.ref D], [(Str.ofString "key", .ref q), (Str.ofString "reverse", .bool b)]⟩) _ _ _
  rw [ksk_t2]
  unfold ksk_tree
  refine wpAny_bind (listItems_at o2 rfl ?_)
  refine wpAny_bind (listUpdate_at o2 rfl ?_ (by rw [List.size_toArray, sizeLine_eq]; omega) (Nat.zero_le _))
  obtain ⟨e1, o3⟩ : ∃ e1, (h2.update D (Obj.mapSeq fun _ => (#[] : Array Value))).get? D = some (lsO #[] e1) := ⟨_, get?_update_seq o2 fun _ => #[]⟩
  have S2 := S1.upd (Heap.SameBut.update h2 D (Obj.mapSeq fun _ => (#[] : Array Value))) o3
  refine wpAny_bind (seqEpoch_at o3 rfl ?_)
  refine wpAny_bind (wpAny_newTuple ?_ (by show vs.length ≤ _; rw [sizeLine_eq]; omega))
  refine wpAny_bind (wpAny_newList ?_ (Nat.zero_le _))
  refine wpAny_holding ?_
  have S3 := (S2.silent fun b o e => Heap.get?_push_of_some (tupO vs 0) e).push (o := lsO #[] 0) rfl
  dsimp only
  generalize hK : ((h2.update D (Obj.mapSeq fun _ => (#[] : Array Value))).push (tupO vs 0)).objs.size = kS at S3 ⊢
  generalize hh3 : (((h2.update D (Obj.mapSeq fun _ => (#[] : Array Value))).push (tupO vs 0)).push (lsO #[] 0)) = h3 at S3 ⊢
  unfold ksk_rest
  refine wpAny_bind (wpAny_rule ?_)
  rw [List.forIn_toArray]
  refine wpAny_bind (ksk_fold (fun i s' => ∃ h' tk I₁ ks e, s' = { s with heap := h', toks := tk } ∧ le I I₁ ∧ St P X h₀ I₀ I₁ L m ((kS, lsO (List.toArray ks) e) :: (D, lsO #[] e1) :: mu) h' ∧ ks.length = i ∧ i ≤ vs.length ∧ ∀ j kv, ks[j]? = some kv → KV I₁ kv j) vs 0 _
    ⟨h3, _, I, [], 0, rfl, le.refl _, S3, rfl, Nat.zero_le _, fun j kv e => by cases e⟩ ?step ?done)
  case step =>
    rintro j x s' hx ⟨h', tk, I₁, ks, e, rfl, hle, S', hlen, hij, hkv⟩
    rw [Nat.zero_add] at hlen
    have hj : j < vs.length := (List.getElem?_eq_some_iff.mp hx).1
    refine wpAny_bind (wpAny_attempt ((key j x _ I₁ hx hle S'.ok Same.mk).use fun kv I₂ h'' tk' g hv => ?_))
    have S'' := S'.grow g
    dsimp only
    have nk := (S''.own _ (.head _)).1
    obtain ⟨c2, hc2⟩ : ∃ c2, (h''.update kS (Obj.mapSeq (·.push kv))).get? kS = some (lsO ((List.toArray ks).push kv) c2) := ⟨_, get?_update_seq nk (·.push kv)⟩
    refine wpAny_bind (listUpdate_at nk rfl ?_ (by rw [List.size_toArray, sizeLine_eq]; omega) (by rw [Array.size_push, List.size_toArray, sizeLine_eq]; omega))
    refine wpAny_pure ⟨rfl, _, _, I₂, ks ++ [kv], c2, rfl, hle.trans g.le, ?_, by rw [List.length_append, hlen, Nat.zero_add]; rfl, by omega, fun j' kv' e' => ?_⟩
    · have := S''.upd (Heap.SameBut.update h'' kS (Obj.mapSeq (·.push kv))) hc2
      rwa [List.push_toArray] at this
    · by_cases z : j' < ks.length
      · rw [List.getElem?_append_left z] at e'
        exact kvm _ _ _ _ (hkv j' kv' e') g.le
      · have z' : j' = ks.length := by
          have := (List.getElem?_eq_some_iff.mp e').1
          rw [List.length_append] at this
          simp at this; omega
        subst z'
        rw [List.getElem?_append_right (Nat.le_refl _)] at e'
        simp at e'
        subst e'
        rw [hlen]; exact hv
  case done =>
    rintro s' ⟨h', tk, I₁, ks, e, rfl, hle, S', hlen, hij, hkv⟩
    rw [Nat.zero_add] at hlen
    refine wpAny_bind (listItems_at (S'.own _ (.head _)).1 rfl ?_)
    unfold ksk_end
    dsimp only
    have step : ∀ (t : Sem PySem.Fin) (F : PySem.Fin → Shared → Prop) (E' : Value → Shared → Prop) (s' : Shared), wpAny (model prog w) A.in1.in1 t F E' s' → wpAny (model prog w) A.in1.in1 (if b = true then (do let _ ← rule "list.sort.reverse"; t) else t) F E' s' := by
      intro t F E' s' ht
      split
      · exact wpAny_bind (wpAny_rule ht)
      · exact ht
    refine step _ _ _ _ ?_
    have toA : (if b then (ks.toArray.zip vs.toArray).reverse else ks.toArray.zip vs.toArray) = (if b then (ks.zip vs).reverse else ks.zip vs).toArray := by
      cases b <;> simp
    have itz : (if b then (ks.toArray.zip vs.toArray).reverse else ks.toArray.zip vs.toArray).size = vs.length := by
      rw [toA, List.size_toArray]; cases b <;> simp [hlen]
    have fin : ∀ (st : SortSt) (p : List Nat) (I₂ : Kn) (h₂ : Heap) (tk₂ : Nat), le I I₂ → St P X h₀ I₀ I₂ L m ((kS, lsO (List.toArray ks) e) :: (D, lsO #[] e1) :: mu) h₂ → p.length = vs.length → (∀ i ∈ p, i < vs.length) →
        arrOf st = (p.toArray).map (kas_item (if b then (ks.toArray.zip vs.toArray).reverse else ks.toArray.zip vs.toArray)) → failedOf st = none → SortedIdx b vs.length lt (if b then (p.map (flip b vs.length)).reverse else p.map (flip b vs.length)) →
        wpAny (model prog w) A.in1.in1 (ksk_tail D b e1 (.ref kS) st) (fun fin s' => ∃ v, fin = PySem.Fin.done (.ret v) ∧ wpAny (model prog w) A.in1 (ret (.ref D)) (fun fin s' => ∃ v, fin = PySem.Fin.done (.ret v) ∧ Q v s') E s') E { s with heap := h₂, toks := tk₂ } := by
      intro st p I₂ h₂ tk₂ l₂ S₂ pl pm ha hf hs
      have hout : (if b then ((arrOf st).map (·.2)).reverse else (arrOf st).map (·.2)) = ((if b then (p.map (flip b vs.length)).reverse else p.map (flip b vs.length)).map fun i => vs.getD i Value.none).toArray := by
        have e1 : (arrOf st).map (·.2) = ((p.map (flip b vs.length)).map fun i => vs.getD i Value.none).toArray := by
          rw [ha]
          simp only [List.map_toArray, List.map_map]
          congr 1
          refine List.map_congr_left fun i hi => ?_
          show (kas_item _ i).2 = _
          rw [item_flip hlen (pm i hi)]
          rfl
        rw [e1]
        cases b <;> simp
      refine tailSt (S := S₂) (by rw [List.size_toArray]; omega) ?_ hout hf fun h' tk' c S' => ⟨_, rfl, wpAny_pure ⟨_, rfl, hq D h' tk' I₂ c _ l₂ hs S'⟩⟩
      have := hs.1.length_eq
      rw [List.length_map, this, List.length_range]; omega
    by_cases h2 : vs.toArray.size < 2
    · rw [if_pos h2, if_pos h2]
      rw [List.size_toArray] at h2
      refine wpAny_bind (wpAny_pure ?_)
      rw [StateT.run_pure]
      refine wpAny_bind (wpAny_pure ?_)
      dsimp only
      have rng : (List.range vs.length).map (flip b vs.length) = List.range vs.length := by
        match vs.length, h2 with
        | 0, _ => rfl
        | 1, _ => cases b <;> rfl
      refine fin _ (List.range vs.length) I₁ h' tk hle S' (by simp) (fun i hi => List.mem_range.mp hi) ?_ rfl ?_
      · have := kas_range (if b then (ks.toArray.zip vs.toArray).reverse else ks.toArray.zip vs.toArray)
        rw [itz] at this
        exact this.symm
      · rw [rng]
        have := sorted_small (b := b) (lt := lt) h2
        cases b with
        | false => exact this
        | true =>
          have r2 : (List.range vs.length).reverse = List.range vs.length := by
            match vs.length, h2 with
            | 0, _ => rfl
            | 1, _ => rfl
          rw [if_pos rfl, r2]; exact this
    · rw [if_neg h2, if_neg h2]
      rw [List.size_toArray] at h2
      have h2' : 2 ≤ vs.length := by omega
      refine wpAny_bind (kas_kind (vs := ks) (T := T) (by omega) (fun v hv => ?_) hT1 hT2 ?_)
      · obtain ⟨i, hi⟩ := List.getElem?_of_mem hv
        exact kvt I₁ v i _ (hkv i v hi) S'.ok.inh
      · obtain ⟨p, p1, p2, p3, p4⟩ := sorted_idx b h2' h5 as nt
        have est : SortSt.mk' oneType' (if b = true then (ks.toArray.zip vs.toArray).reverse else ks.toArray.zip vs.toArray) #[] 7 none = kas_st oneType' (if b then (ks.toArray.zip vs.toArray).reverse else ks.toArray.zip vs.toArray) (List.toArray (List.range vs.length)) := by
          have e := kas_range (if b then (ks.toArray.zip vs.toArray).reverse else ks.toArray.zip vs.toArray)
          rw [itz] at e
          show _ = SortSt.mk' oneType' ((List.toArray (List.range vs.length)).map (kas_item _)) #[] 7 none
          rw [e]
        rw [est]
        refine wpAny_bind (wpAny_mono (kas_runs (E := E) (Q := fun _ st' s' => ∃ I₂ h₂ tk₂, s' = { s with heap := h₂, toks := tk₂ } ∧ le I I₂ ∧ St P X h₀ I₀ I₂ L m ((kS, lsO (List.toArray ks) e) :: (D, lsO #[] e1) :: mu) h₂ ∧ arrOf st' = (p.toArray).map (kas_item (if b then (ks.toArray.zip vs.toArray).reverse else ks.toArray.zip vs.toArray)) ∧ failedOf st' = none)
          (G := fun p' s' => p' = p.toArray ∧ ∃ I₂ h₂ tk₂, s' = { s with heap := h₂, toks := tk₂ } ∧ le I I₂ ∧ St P X h₀ I₀ I₂ L m ((kS, lsO (List.toArray ks) e) :: (D, lsO #[] e1) :: mu) h₂) h2' (by omega) ?_ ?_) ?_ fun _ _ z => z)
        · rintro p' st' s' - a2 a3 ⟨rfl, I₂, h₂, tk₂, b1, b2, b3⟩
          exact ⟨I₂, h₂, tk₂, b1, b2, b3, a2, a3⟩
        · refine evalT_wp (V := fun s' => ∃ I₂ h₂ tk₂, s' = { s with heap := h₂, toks := tk₂ } ∧ le I I₂ ∧ le I₁ I₂ ∧ St P X h₀ I₀ I₂ L m ((kS, lsO (List.toArray ks) e) :: (D, lsO #[] e1) :: mu) h₂) (lt := fun i j => lt (flip b vs.length i) (flip b vs.length j)) ?_ _ p.toArray _ p1 ⟨I₁, h', tk, rfl, hle, le.refl _, S'⟩ ?_
          · rintro i j C s' hi hj ⟨I₂, h₂, tk₂, rfl, b2, b3, b4⟩ hC
            unfold kas_cmp
            rw [item_flip hlen hi, item_flip hlen hj]
            have gi : ks[flip b vs.length i]? = some (ks.getD (flip b vs.length i) Value.none) := by
              have := flip_lt (b := b) hi
              rw [List.getElem?_eq_getElem (by omega)]; simp [List.getD, (by omega : flip b vs.length i < ks.length)]
            have gj : ks[flip b vs.length j]? = some (ks.getD (flip b vs.length j) Value.none) := by
              have := flip_lt (b := b) hj
              rw [List.getElem?_eq_getElem (by omega)]; simp [List.getD, (by omega : flip b vs.length j < ks.length)]
            refine (cmp (flip b vs.length i) (flip b vs.length j) _ _ _ I₂ (flip_lt hi) (flip_lt hj) (kvm _ _ _ _ (hkv _ _ gi) b3) (kvm _ _ _ _ (hkv _ _ gj) b3) b2 b4.ok Same.mk).use fun r I₃ h₃ tk₃ g hr => ?_
            subst hr
            exact hC _ ⟨I₃, h₃, tk₃, rfl, b2.trans g.le, b3.trans g.le, b4.grow g⟩
          · rintro s' ⟨I₂, h₂, tk₂, b1, b2, b3, b4⟩
            exact ⟨rfl, I₂, h₂, tk₂, b1, b2, b4⟩
        · rintro ⟨⟨⟩, st'⟩ s' ⟨I₂, h₂, tk₂, rfl, b2, b3, b4, b5⟩
          exact fin st' p I₂ h₂ tk₂ b2 b3 p2 p3 b4 b5 p4
end
end Mine

-- part LComp
set_option maxRecDepth 100000
set_option maxHeartbeats 0
set_option pp.deepTerms false
set_option pp.maxSteps 2500
namespace Mine
open PySem PySem.W PySem.W.X PyProof.Rows PySem.Calls
section
variable {P : Params} {X : List Addr} {h₀ h₁ h h' : Heap} {I₀ I I' : Kn} {L : Addr} {m m' : Str → Option Value} {mu mu' : List (Addr × Obj)}
theorem St.rebase (S : St P X h₁ I₀ I L m mu h) (k : ∀ b o, h₀.get? b = some o → h₁.get? b = some o) (x0 : ∀ b ∈ X, ∃ o, h₀.get? b = some o) : St P X h₀ I₀ I L m mu h :=
  have none : ∀ b, h₁.get? b = none → h₀.get? b = none := fun b e => by
    cases q : h₀.get? b with
    | none => rfl
    | some o => rw [k b o q] at e; cases e
  { S with
    own := fun p hp => let ⟨a, b, c, d⟩ := S.own p hp; ⟨a, b, c, none _ d⟩
    base := fun b o n e => S.base b o n (k b o e)
    new := fun b o e => (S.new b o e).imp id (none b)
    newL := none _ S.newL
    t0 := x0 93 S.hX
    x0 := x0 }
theorem St.adopt {a : Addr} {o : Obj} (S : St P X h₀ I₀ I L m mu h) (e : h.get? a = some o) (hI : I a = none) (hL : a ≠ L) (h0 : h₀.get? a = none) (hm : a ∉ mu.map (·.1)) : St P X h₀ I₀ I L m ((a, o) :: mu) h :=
  { S with
    own := fun p hp => by
      rcases List.mem_cons.mp hp with rfl | hp
      · exact ⟨e, hI, hL, h0⟩
      · exact S.own p hp
    nd := List.nodup_cons.mpr ⟨hm, S.nd⟩ }
-- something that is none of the frame's turns, and more comes
theorem St.offX {C : Addr} (S : St P X h₀ I₀ I L m mu h) (hs : ∀ b o, b ≠ C → h.get? b = some o → h'.get? b = some o) (hI : I C = none) (hL : C ≠ L) (h0 : h₀.get? C = none) (hm : C ∉ mu.map (·.1)) : St P X h₀ I₀ I L m mu h' :=
  have n93 : C ≠ 93 := fun e => by obtain ⟨o, x⟩ := S.t0; rw [e, x] at h0; cases h0
  { S with
    ok := ⟨fun b o e => hs b o (fun r => by rw [r, hI] at e; cases e) (S.ok.inh b o e), tab_keep S.ok.tab (fun o e => hs _ o (Ne.symm n93) e) (le.refl _), S.ok.t93, S.ok.prog⟩
    ns := by
      obtain ⟨o, es, ep, e, r⟩ := S.ns
      exact ⟨o, es, ep, hs _ o (Ne.symm hL) e, r⟩
    own := fun p hp => ⟨hs _ _ (fun e => hm (List.mem_map.mpr ⟨p, hp, e⟩)) (S.own p hp).1, (S.own p hp).2⟩
    base := fun b o n e => hs b o (fun q => by rw [q, h0] at e; cases e) (S.base b o n e)
    xs := fun b hb => by
      obtain ⟨o, e⟩ := S.xs b hb
      exact ⟨o, hs b o (fun q => by obtain ⟨o', e'⟩ := S.x0 b hb; rw [q, h0] at e'; cases e') e⟩ }
-- something that is none of the frame's turns
theorem St.off {C : Addr} (S : St P X h₀ I₀ I L m mu h) (hs : Heap.SameBut C h h') (hI : I C = none) (hL : C ≠ L) (h0 : h₀.get? C = none) (hm : C ∉ mu.map (·.1)) : St P X h₀ I₀ I L m mu h' :=
  have n93 : C ≠ 93 := fun e => by obtain ⟨o, x⟩ := S.t0; rw [e, x] at h0; cases h0
  { S with
    ok := ok_same S.ok hs n93 hI
    ns := S.ns.sameBut hs (Ne.symm hL)
    own := fun p hp => ⟨(hs.2 p.1 (fun e => hm (List.mem_map.mpr ⟨p, hp, e⟩))).trans (S.own p hp).1, (S.own p hp).2⟩
    base := fun b o n e => (hs.2 b (fun q => by rw [q, h0] at e; cases e)).trans (S.base b o n e)
    xs := fun b hb => by
      obtain ⟨o, e⟩ := S.xs b hb
      exact ⟨o, (hs.2 b (fun q => by obtain ⟨o', e'⟩ := S.x0 b hb; rw [q, h0] at e'; cases e')).trans e⟩ }
-- a frame of no name whose own things may be gone
theorem St.exitOff (S : St P [93] h₀ I₀ I L m mu h) (hs : Heap.SameBut L h h') : Grow h₀ I₀ h' I where
  keep := fun b o n e => (hs.2 b (fun q => by have := S.newL; rw [← q, e] at this; cases this)).trans (S.base b o (by simpa using n) e)
  le := S.le
  inh := fun b o e => (hs.2 b (fun q => by have := S.offL; rw [← q, e] at this; cases this)).trans (S.ok.inh b o e)
  new := S.new
  tab := tab_same S.ok.tab hs S.neL
end
noncomputable abbrev testsOf (ifs : List PySem.Expr) (env : Env) : Sem Bool := forIn ifs true fun c r => if r = true then do let ok ← isTrue c env (eval c env); pure (ForInStep.yield ok) else pure (ForInStep.yield r)
section
variable {prog : Program} {w : World} {A : Around} {E : Value → Shared → Prop} {s : Shared} {I : Kn} {env : Env}
theorem tests_nil {M : Model} {Q : Bool → Shared → Prop} (h : Q true s) : wpAny M A (testsOf [] env) Q E s := by
  unfold testsOf; rw [List.forIn_nil]; exact wpAny_pure h
theorem tests_one {M : Model} {c : PySem.Expr} {Q : Bool → Shared → Prop} (h : wpAny M A (isTrue c env (eval c env)) Q E s) : wpAny M A (testsOf [c] env) Q E s := by
  unfold testsOf
  rw [List.forIn_cons]
  refine wpAny_bind ?_
  rw [if_pos rfl]
  refine wpAny_bind (wpAny_mono h (fun b s' hb => wpAny_pure ?_) fun _ _ e => e)
  dsimp only
  rw [List.forIn_nil]
  exact wpAny_pure hb
-- a comprehension behind its source
def CompRest (prog : Program) (w : World) (A : Around) (E : Value → Shared → Prop) (env : Env) (elt : PySem.Expr) (x : Str) (px : Pos) (iter : PySem.Expr) (ifs : List PySem.Expr) (scope : Scope) (cl : List (Str × Addr)) (pos : Pos) (use : Option (Value → Sem Unit)) (Q : Value → Shared → Prop) (xv : Value) (s₁ : Shared) : Prop :=
  wpAny (model prog w) A (pyIter xv) (fun it s₂ => wpAny (model prog w) A (newList []) (fun acc s₃ => wpAny (model prog w) A (newFunctionEnv scope env.globals cl [] env.qual none .none (some env)) (fun cenv s₄ =>
    codeAny (model prog w) A (.compStart (.ListComp elt [⟨.Name x px, iter, ifs, 0⟩] scope pos) 0 it acc { cenv with scope := relabel scope env }) (compPost (model prog w) A E use Q acc cenv.locals) s₄) E s₃) E s₂) E s₁
theorem compN {elt iter : PySem.Expr} {x : Str} {px : Pos} {ifs : List PySem.Expr} {scope : Scope} {cl : List (Str × Addr)} {pos : Pos} {Q : Value → Shared → Prop}
    (h : wpAny (model prog w) A (eval iter env) (CompRest prog w A E env elt x px iter ifs scope cl pos none Q) E s) (hclos : closureFor scope env = pure cl) (hkind : scope.kind = .function)
    (hnames : ∀ y ∈ scope.names, y.2 = .local → scope.names.lookup y.1 = some .local) (hs : ∀ x, foldedSetIterable iter env x = pure x) :
    wpAny (model prog w) A (eval (.ListComp elt [⟨.Name x px, iter, ifs, 0⟩] scope pos) env) Q E s := by
  rw [eval_ListComp]
  exact wpAny_comprehension_free (use := none) rfl hs hclos hkind hnames h
theorem compA {elt iter : PySem.Expr} {x y : Str} {px py : Pos} {ifs : List PySem.Expr} {scope : Scope} {cl : List (Str × Addr)} {pos spos : Pos} {Q : Flow → Shared → Prop}
    (h : wpAny (model prog w) A (eval iter env) (CompRest prog w A E env elt x px iter ifs scope cl pos (some (assign (.Name y py) env)) (fun _ s' => Q .next s')) E s)
    (hsw : swapsWith (.ListComp elt [⟨.Name x px, iter, ifs, 0⟩] scope pos) (some (.Name y py)) spos.line env = pure true) (hclos : closureFor scope env = pure cl) (hkind : scope.kind = .function)
    (hnames : ∀ y ∈ scope.names, y.2 = .local → scope.names.lookup y.1 = some .local) (hs : ∀ x, foldedSetIterable iter env x = pure x) :
    wpAny (model prog w) A (exec (.Assign [.Name y py] (.ListComp elt [⟨.Name x px, iter, ifs, 0⟩] scope pos) spos) env) Q E s := by
  rw [exec_Assign_Name_used _ _ _ _ hsw]
  refine wpAny_bind (wpAny_standAt (wpAny_bind ?_))
  show wpAny _ A (do let _ ← comprehension (.ListComp elt [⟨.Name x px, iter, ifs, 0⟩] scope pos) scope env _ (newList []) false (eval iter env) (some (assign (.Name y py) env))) _ _ s
  exact wpAny_bind (wpAny_mono (wpAny_comprehension_free (use := some (assign (.Name y py) env)) (Q := fun _ s' => Q .next s') rfl hs hclos hkind hnames h) (fun _ s' hq => wpAny_pure (wpAny_pure hq)) fun _ _ e => e)
-- a comprehension's start: its iterator, its list, its frame
theorem comp_begin {oit : Obj} {scope : Scope} {cl : List (Str × Addr)} {G : Value → Env → Shared → Prop} (k : Ok w.params I s.heap) (hf : oit.isFreed = false) (hcell : ∀ y ∈ scope.names, y.2 ≠ .cell) (hkind : scope.kind = .function)
    (h : ∀ it D C h₁ tk cenv, it = s.heap.objs.size → St w.params [93] s.heap I I C (fun x => ([] : List (Str × Value)).reverse.lookup x) [(D, lsO #[] 0), (it, oit)] h₁ → ({ cenv with scope := relabel scope env } : Env) = compEnvC scope cl C env → cenv.locals = C → G (.ref D) cenv { s with heap := h₁, toks := tk }) :
    wpAny (model prog w) A (newList []) (fun acc s₃ => wpAny (model prog w) A (newFunctionEnv scope env.globals cl [] env.qual none .none (some env)) (fun cenv s₄ => G acc cenv s₄) E s₃) E { s with heap := s.heap.push oit } := by
  refine wpAny_newObj_type (wpAny_newFunctionEnv hcell (by intro y hy; simp at hy) (fun h₁ hns₁ hsb₁ => ?_) hkind)
  dsimp only at hns₁ hsb₁ ⊢
  generalize hH1 : s.heap.push oit = H1 at hns₁ hsb₁ ⊢
  generalize hH2 : H1.push { cls := .type "list", dict := none, data := .seq ([] : List Value).toArray } = H2 at hns₁ hsb₁ ⊢
  have z1 : H1.objs.size = s.heap.objs.size + 1 := by rw [← hH1, Heap.size_push]
  have z2 : H2.objs.size = s.heap.objs.size + 2 := by rw [← hH2, Heap.size_push, z1]
  have k1 : ∀ b o, s.heap.get? b = some o → H1.get? b = some o := fun b o e => by rw [← hH1]; exact Heap.get?_push_of_some _ e
  have k2 : ∀ b o, H1.get? b = some o → H2.get? b = some o := fun b o e => by rw [← hH2]; exact Heap.get?_push_of_some _ e
  have ok2 : Ok w.params I H2 := (Grow.silent k fun b o e => k2 b o (k1 b o e)).ok k
  have S0 := ((St.start (c := .type "dict") ok2).set hns₁ hsb₁).rebase (fun b o e => k2 b o (k1 b o e)) (fun b hb => by rw [List.mem_singleton.mp hb]; exact tab_there k.tab)
  have fr : ∀ j, s.heap.get? (s.heap.objs.size + j) = none := fun j => Heap.get?_none_of_le (Nat.le_add_right _ _)
  have iN : ∀ j, I (s.heap.objs.size + j) = none := fun j => by
    cases q : I (s.heap.objs.size + j) with
    | none => rfl
    | some o => have := k.inh _ _ q; rw [fr j] at this; cases this
  have up : ∀ b o, H2.get? b = some o → h₁.get? b = some o := fun b o e => (hsb₁.2 b (Nat.ne_of_lt (Heap.lt_size e))).trans (Heap.get?_push_of_some _ e)
  have eA : h₁.get? (s.heap.objs.size + 1) = some (lsO #[] 0) := up _ _ (by rw [← hH2, ← z1]; exact Heap.get?_push_size _ rfl)
  have eI : h₁.get? (s.heap.objs.size + 0) = some oit := up _ _ (k2 _ _ (by rw [← hH1]; exact Heap.get?_push_size _ hf))
  have S1 := (S0.adopt eI (iN 0) (by rw [z2]; exact Nat.ne_of_lt (by omega)) (fr 0) (by simp)).adopt eA (iN 1) (by rw [z2]; exact Nat.ne_of_lt (by omega)) (fr 1) (by simp)
  exact h _ _ _ _ _ _ (Nat.add_zero _) (by rw [z1] at *; exact S1) rfl rfl
-- the walk of a comprehension over a list that stays
theorem comp_list {elt iter : PySem.Expr} {x : Str} {px : Pos} {ifs : List PySem.Expr} {scope : Scope} {cl : List (Str × Addr)} {pos : Pos} {use : Option (Value → Sem Unit)} {Q : Value → Shared → Prop} {l : Addr} {vs : List Value} {ep : Nat}
    (k : Ok w.params I s.heap) (hh : A.handled = none) (hl : I l = some (listO vs ep)) (hn : vs.length ≤ 1000) (hcell : ∀ y ∈ scope.names, y.2 ≠ .cell) (hkind : scope.kind = .function) (hx : scope.names.lookup x = some .local)
    (J : Nat → Kn → List Value → Prop) (h0 : J 0 I []) (hJ : ∀ i I₁ ys, J i I₁ ys → ys.length ≤ i)
    (turn : ∀ i v I₁ C m₁ mu₁ ys s₁, vs[i]? = some v → le I I₁ → J i I₁ ys → m₁ x = some v → St w.params [93] s.heap I I₁ C m₁ mu₁ s₁.heap → Same s s₁ →
      wpAny (model prog w) A (testsOf ifs (compEnvC scope cl C env)) (fun ok s₃ =>
        if ok = true then wpAny (model prog w) A (eval elt (compEnvC scope cl C env)) (fun y s₄ => ∃ I₂ m₂, Same s s₄ ∧ le I₁ I₂ ∧ J (i + 1) I₂ (ys ++ [y]) ∧ St w.params [93] s.heap I I₂ C m₂ mu₁ s₄.heap) NoE s₃
        else ∃ I₂ m₂, Same s s₃ ∧ le I₁ I₂ ∧ J (i + 1) I₂ ys ∧ St w.params [93] s.heap I I₂ C m₂ mu₁ s₃.heap) NoE s₁)
    (hq : ∀ D C I₁ m₁ ys c mu₁ s₁, le I I₁ → J vs.length I₁ ys → St w.params [93] s.heap I I₁ C m₁ ((D, lsO ys.toArray c) :: mu₁) s₁.heap → Same s s₁ → compPost (model prog w) A E use Q (.ref D) C (.ok .next) s₁) :
    CompRest prog w A E env elt x px iter ifs scope cl pos use Q (.ref l) s := by
  unfold CompRest
  have hl' : ∀ I₁ h, le I I₁ → InH I₁ h → h.IsList l vs.toArray := fun I₁ h a b => ⟨_, b _ _ (a _ _ hl), rfl, ep, rfl⟩
  refine wpAny_pyIter_list (hl' I _ (le.refl _) k.inh) ?_
  refine comp_begin (env := env) k rfl hcell hkind fun it D C h₁ tk cenv hit S1 e1 e2 => ?_
  rw [e1, e2, ← hit]
  have loop : ∀ s₃ : Shared, s₃ = { s with heap := h₁, toks := tk } →
      codeAny (model prog w) A (.compLoop (.ListComp elt [⟨.Name x px, iter, ifs, 0⟩] scope pos) 0 (.ref it) (.ref D) (compEnvC scope cl C env)) (compPost (model prog w) A E use Q (.ref D) C) s₃ := by
    rintro s₃ rfl
    refine codeAny_compLoop_tests (fun n s' => ∃ i I₁ m₁ ys c oit, Same s s' ∧ i ≤ vs.length ∧ n = vs.length + 1 - i ∧ le I I₁ ∧ J i I₁ ys ∧ oit.cls = .type "list_iterator" ∧ oit.data = .fields #[.ref l, .int i 0] ∧
      St w.params [93] s.heap I I₁ C m₁ [(D, lsO ys.toArray c), (it, oit)] s'.heap) ?_ (vs.length + 1) ⟨0, I, _, [], 0, _, Same.mk, Nat.zero_le _, rfl, le.refl _, h0, rfl, rfl, S1⟩
    rintro n s' ⟨i, I₁, m₁, ys, c, oit, hs, hi, rfl, hle, hj, hc, hd, S'⟩
    have q := S'.own _ (.tail _ (.head _))
    have hit : s'.heap.IsListIter it l i := ⟨_, q.1, hc, hd⟩
    have hl1 := hl' I₁ _ hle S'.ok.inh
    cases hv : vs[i]? with
    | none =>
      have e : i = vs.length := Nat.le_antisymm hi (by simpa using hv)
      subst e
      refine wpAny_pyNext_list_end hh hit hl1 (by simpa using hv) fun h' he => ?_
      have nd := S'.nd
      have S'' := S'.swap.drop.offX (fun b o n e => he b o n e) q.2.1 q.2.2.1 q.2.2.2 (by
        intro hm
        rw [List.map_cons, List.map_nil, List.mem_singleton] at hm
        simp only [List.map_cons, List.map_nil, List.nodup_cons, List.mem_singleton] at nd
        exact nd.1 hm.symm)
      exact hq D C I₁ m₁ ys c [] { s' with heap := h' } hle hj S'' hs.heap
    | some v =>
      have hlt : i < vs.length := (List.getElem?_eq_some_iff.mp hv).1
      refine wpAny_pyNext_list_item hit hl1 (by simpa using hv) fun h' hit' hs' => ?_
      obtain ⟨oit', e', hc', hd'⟩ := id hit'
      have S2 := (S'.swap.upd hs' e').swap
      refine wpAny_assign_Name (st S2 (fun h₂ tk₂ S3 => ?_) (by exact hkind) (lookup_relabel_local hx) rfl)
      refine wpAny_mono (turn i v I₁ C _ _ ys _ hv hle hj (by simp [setM]) S3 (hs.heap.both)) (fun ok s₃ h₃ => ?_) (fun _ _ z => z.elim)
      cases ok with
      | false =>
        simp only [Bool.false_eq_true, if_false] at h₃ ⊢
        obtain ⟨I₂, m₂, a, b, c', d⟩ := h₃
        exact ⟨vs.length + 1 - (i + 1), by omega, i + 1, I₂, m₂, ys, c, oit', a, hlt, rfl, hle.trans b, c', hc', by simpa using hd', d⟩
      | true =>
        simp only [if_true] at h₃ ⊢
        refine wpAny_mono h₃ (fun y s₄ h₄ => ?_) (fun _ _ z => z.elim)
        obtain ⟨I₂, m₂, a, b, c', d⟩ := h₄
        have qd := (d.own _ (.head _)).1
        refine wpAny_list_append_plain ⟨c, qd⟩ (fun h₅ hp₅ hs₅ => ?_) (by have := hJ _ _ _ c'; rw [List.length_append] at this; rw [List.size_toArray, sizeLine_eq]; omega)
        obtain ⟨c₅, hp₅⟩ := hp₅
        have S5 := d.upd hs₅ hp₅
        rw [List.push_toArray] at S5
        exact ⟨vs.length + 1 - (i + 1), by omega, i + 1, I₂, m₂, ys ++ [y], c₅, oit', a.heap, hlt, rfl, hle.trans b, c', hc', by simpa using hd', S5⟩
  exact codeAny_compStart_list (loop _ rfl) (wpAny_pyIter_listiter (i := 0) ⟨_, (S1.own _ (.tail _ (.head _))).1, rfl, rfl⟩ (loop _ rfl))
-- the end of a comprehension that is a value
theorem post_none {D C : Addr} {Q : Value → Shared → Prop} {I₁ : Kn} {m₁ : Str → Option Value} {mu₁ : List (Addr × Obj)} {o : Obj} {s₁ : Shared} (S : St w.params [93] s.heap I I₁ C m₁ ((D, o) :: mu₁) s₁.heap) (hs : Same s s₁)
    (h : ∀ h' tk, Grow s.heap I h' (put I₁ D o) → Q (.ref D) { s with heap := h', toks := tk }) : compPost (model prog w) A E none Q (.ref D) C (.ok .next) s₁ := by
  obtain ⟨h', tk, rfl⟩ := hs
  exact ⟨m₁, S.ns, fun h'' hs'' => h h'' tk (S.freeze.exitOff hs'')⟩
-- the end of a comprehension that is stored
theorem post_some {P : Params} {X : List Addr} {h₀ : Heap} {I₀ : Kn} {L : Addr} {m : Str → Option Value} {mu : List (Addr × Obj)} {y : Str} {py : Pos} {D C : Addr} {Q : Value → Shared → Prop} {I₁ : Kn} {m₁ : Str → Option Value} {mu₁ : List (Addr × Obj)} {o : Obj} {s₁ : Shared}
    (S : St P X h₀ I₀ I L m mu s.heap) (S1 : St w.params [93] s.heap I I₁ C m₁ ((D, o) :: mu₁) s₁.heap) (hs : Same s s₁)
    (h : ∀ h' tk, St P X h₀ I₀ (put I₁ D o) L (setM m y (.ref D)) mu h' → Q .none { s with heap := h', toks := tk })
    (hk : env.scope.kind = .function) (hl : env.kindOf y = some .local) (hL : env.locals = L) : compPost (model prog w) A E (some (assign (.Name y py) env)) Q (.ref D) C (.ok .next) s₁ := by
  obtain ⟨h₁, tk, rfl⟩ := hs
  have G := S1.freeze.exit
  have S2 := S.grow G
  have cN : s.heap.get? C = none := S1.newL
  have nL : C ≠ L := fun e => by obtain ⟨o, es, ep, x, _⟩ := S.ns; rw [e, x] at cN; cases cN
  have n0 : h₀.get? C = none := by
    cases q : h₀.get? C with
    | none => rfl
    | some o' =>
      by_cases z : C ∈ X
      · obtain ⟨o, x⟩ := S.xs C z; rw [x] at cN; cases cN
      · rw [S.base C o' z q] at cN; cases cN
  have nm : C ∉ mu.map (·.1) := fun hm => by
    obtain ⟨p, hp, e⟩ := List.mem_map.mp hm
    have := (S.own p hp).1; rw [e, cN] at this; cases this
  show wpAny _ A (assign (.Name y py) env (.ref D)) _ _ _
  subst hL
  refine wpAny_assign_Name (wpAny_storeName_local hl S2.ns (fun h₂ hn₂ hs₂ => ?_) (by rw [hk]; rfl))
  have S3 := S2.set hn₂ hs₂
  refine ⟨m₁, S1.ns.sameBut hs₂ nL, fun h₃ hs₃ => h h₃ _ (S3.off hs₃ ?_ nL n0 nm)⟩
  exact S1.freeze.offL
end
end Mine

-- part LItems
set_option maxRecDepth 100000
set_option maxHeartbeats 0
set_option pp.deepTerms false
set_option pp.maxSteps 2500
namespace Mine
open PySem PySem.W PySem.W.X PyProof.Rows PySem.Calls
section
variable {P : Params} {prog : Program} {w : World} {A : Around} {E : Value → Shared → Prop} {s : Shared} {env : Env} {X : List Addr} {h₀ h : Heap} {I₀ I : Kn} {L : Addr} {m : Str → Option Value} {mu : List (Addr × Obj)}
theorem CalO.of {o : Obj} {kvs : List (Int × Value)} {d : Addr} (c : CalO prog w o kvs) (e : h.get? d = some o) : h.DictOf (intKind prog w) d kvs := by
  cases c with | mk es ep a b c d f => exact ⟨o, es, ep, e, a, b, c, d, f⟩
theorem CalO.to {kvs : List (Int × Value)} {d : Addr} (x : h.DictOf (intKind prog w) d kvs) : ∃ o, h.get? d = some o ∧ CalO prog w o kvs := by
  obtain ⟨o, es, ep, e, a, b, c, d, f⟩ := x
  exact ⟨o, e, .mk es ep a b c d f⟩
-- d[key] = v, d the first of the frame's own
theorem setSt {D : Addr} {o : Obj} {kvs : List (Int × Value)} {key v : Value} {k : Int} {Q : Unit → Shared → Prop} (S : St P X h₀ I₀ I L m ((D, o) :: mu) s.heap) (c : CalO prog w o kvs) (hk : ∃ t, key = .int k t) (hz : kvs.length ≤ 1000)
    (h : ∀ h' tk o', CalO prog w o' (stored kvs k v) → St P X h₀ I₀ I L m ((D, o') :: mu) h' → Q () { s with heap := h', toks := tk }) : wpAny (model prog w) A (setItem (.ref D) key v) Q E s := by
  obtain ⟨t, rfl⟩ := hk
  refine wpAny_setItem_pairs (knd := intKind prog w) (intKind_is _ _ _ _) (c.of (S.own _ (.head _)).1) (fun h' hd hs => ?_) (by rw [sizeLine_eq]; omega)
  obtain ⟨o', e, c'⟩ := CalO.to hd
  exact h h' _ o' c' (S.upd hs e)
-- for k, v in d.items(): d stays
theorem for_items {xk xv : Str} {pk pv pt : Pos} {x1 : Nat} {body : List Stmt} {d v : Addr} {o : Obj} {kvs : List (Int × Value)} {Q : Flow → Shared → Prop} (hh : A.handled = none) (hd : I d = some o) (c : CalO prog w o kvs)
    (S : St P X h₀ I₀ I L m mu s.heap) (hv : s.heap.IsItemsView v d)
    (J : Nat → Kn → (Str → Option Value) → List (Addr × Obj) → Prop) (h0 : J 0 I m mu)
    (turn : ∀ i k x key I₁ m₁ mu₁ s₁ it oit, kvs[i]? = some (k, x) → (∃ t, key = .int k t) → le I I₁ → J i I₁ m₁ mu₁ → St P X h₀ I₀ I₁ L (fun y => if y = xv then some x else if y = xk then some key else m₁ y) ((it, oit) :: mu₁) s₁.heap → Same s s₁ →
      wpAny (model prog w) A (execs body env) (fun f s₃ => f = .next ∧ ∃ I₂ m₂ mu₂, Same s s₃ ∧ le I₁ I₂ ∧ J (i + 1) I₂ m₂ mu₂ ∧ St P X h₀ I₀ I₂ L m₂ ((it, oit) :: mu₂) s₃.heap) NoE s₁)
    (done : ∀ I₁ m₁ mu₁ s₁, le I I₁ → J kvs.length I₁ m₁ mu₁ → St P X h₀ I₀ I₁ L m₁ mu₁ s₁.heap → Same s s₁ → Q .next s₁)
    (hk : env.scope.kind = .function) (hxk : env.kindOf xk = some .local) (hxv : env.kindOf xv = some .local) (hL : env.locals = L) :
    wpAny (model prog w) A (pyIter (.ref v)) (fun it s₂ => codeAny (model prog w) A (.forLoop (.Tuple [.Name xk pk, .Name xv pv] x1 pt) it body [] env) (fun r s' => match r with | .ok f => Q f s' | .error e => cameBackBy (model prog w) A env E e s') s₂) E s := by
  obtain ⟨es, ep, c1, c2, c3, c4, c5⟩ := c
  have hm : ∀ I₁ h', le I I₁ → InH I₁ h' → h'.DictAt (intKind prog w) d kvs ep := fun I₁ h' a b => ⟨o, es, b _ _ (a _ _ hd), c1, c2, c3, c4, c5⟩
  refine wpAny_pyIter_items hv (hm I _ (le.refl _) S.ok.inh) ?_
  have S1 := S.push (o := { cls := .type "dict_itemiterator", data := .fields #[.none, .bool false, .ref d, .int 0 0, .int kvs.length 0, .int ep 0, .none, .none] }) rfl
  generalize hT : s.heap.objs.size = it at S1 ⊢
  refine forLoop_F (fun n s' => ∃ i I₁ m₁ mu₁ ok ov, Same s s' ∧ i ≤ kvs.length ∧ n = kvs.length + 1 - i ∧ le I I₁ ∧ J i I₁ m₁ mu₁ ∧
    St P X h₀ I₀ I₁ L m₁ ((it, { cls := .type "dict_itemiterator", data := .fields #[.none, .bool false, .ref d, .int i 0, .int kvs.length 0, .int ep 0, ok, ov] }) :: mu₁) s'.heap) ?_ (kvs.length + 1) ⟨0, I, m, mu, .none, .none, Same.mk, Nat.zero_le _, rfl, le.refl _, h0, S1⟩
  rintro n s' ⟨i, I₁, m₁, mu₁, ok, ov, hs, hi, rfl, hle, hJ, S'⟩
  have q := S'.own _ (.head _)
  have hit : IsItemIter s'.heap it d i kvs.length ep ok ov := q.1
  have hm1 := hm I₁ _ hle S'.ok.inh
  have nd := S'.nd
  have nm : it ∉ mu₁.map (·.1) := (List.nodup_cons.mp nd).1
  cases hvv : kvs[i]? with
  | none =>
    have e : i = kvs.length := Nat.le_antisymm hi (by simpa using hvv)
    subst e
    refine wpAny_pyNext_items_end hh hit hm1 hvv fun h' he => ?_
    exact done I₁ m₁ mu₁ { s' with heap := h' } hle hJ (S'.drop.offX (fun b o n e => he b o n e) q.2.1 q.2.2.1 q.2.2.2 nm) hs.heap
  | some kv =>
    obtain ⟨k, x⟩ := kv
    have hlt : i < kvs.length := (List.getElem?_eq_some_iff.mp hvv).1
    refine wpAny_pyNext_items_item hit hm1 hvv fun key h1 hkey heo ht1 hz1 hk1 => ?_
    have hkey : ∃ t, key = .int k t := Value.isInt_shape hkey
    have S2 : St P X h₀ I₀ I₁ L m₁ mu₁ h1 := S'.drop.offX (fun b o n e => hk1 b o n e) q.2.1 q.2.2.1 q.2.2.2 nm
    refine wpAny_letOwnedTupleGo_items heo fun h2 he2 hs2 => ?_
    have S3 : St P X h₀ I₀ I₁ L m₁ mu₁ h2 := S2.off hs2 q.2.1 q.2.2.1 q.2.2.2 nm
    have S4 := S3.adopt he2 q.2.1 q.2.2.1 q.2.2.2 nm
    have tz : s'.heap.objs.size ≠ it := Nat.ne_of_gt (Heap.lt_size q.1)
    have ht2 : h2.get? s'.heap.objs.size = some (tupO [key, x] 0) := (hs2.2 _ tz).trans ht1
    refine assign2 hh S4 ht2 (fun h3 tk3 S5 => ?_) hk hxk hxv hL
    refine wpAny_mono (turn i k x key I₁ m₁ mu₁ _ it _ hvv hkey hle hJ S5 (hs.heap.both)) (fun f s3 h3' => ?_) (fun _ _ z => z)
    obtain ⟨rfl, I₂, m₂, mu₂, a, b, c', d'⟩ := h3'
    exact ⟨kvs.length + 1 - (i + 1), by omega, i + 1, I₂, m₂, mu₂, key, x, a, hlt, rfl, hle.trans b, c', d'⟩
end
end Mine

-- part LCallers
set_option maxRecDepth 100000
set_option maxHeartbeats 0
set_option pp.deepTerms false
set_option pp.maxSteps 2500
namespace Mine
open PySem PySem.W PySem.W.X PyProof.Rows PySem.Calls
noncomputable def addCal (c : Int → Option Int) (who : Int) : Int → Option Int := fun k => if k = who then some ((c k).getD 0 + 1) else c k
theorem stored_take {kvs : List (Int × Value)} (nd : (kvs.map (·.1)).Nodup) {i : Nat} {k : Int} {v : Value} (e : kvs[i]? = some (k, v)) : stored (kvs.take i) k v = kvs.take (i + 1) := by
  have hi : i < kvs.length := (List.getElem?_eq_some_iff.mp e).1
  have ne : (kvs.take i).any (fun kv => kv.1 = k) = false := by
    rw [List.any_eq_false]
    intro kv hkv q
    obtain ⟨j, hj, e'⟩ := List.getElem_of_mem hkv
    rw [List.length_take] at hj
    rw [List.getElem_take] at e'
    have := (List.getElem_inj (xs := kvs.map (·.1)) (i := j) (j := i) (h₀ := by rw [List.length_map]; omega) (h₁ := by rw [List.length_map]; omega) nd).mp (by
      rw [List.getElem_map, List.getElem_map, e']
      have := (List.getElem?_eq_some_iff.mp e).2
      rw [this]
      simpa using q)
    omega
  unfold stored
  rw [if_neg (by rw [ne]; simp), List.take_add_one, e]
  rfl
theorem valueAt_stored (kvs : List (Int × Value)) (k : Int) (v : Value) (x : Int) : valueAt (stored kvs k v) x = if x = k then some v else valueAt kvs x := by
  unfold stored
  split
  · rename_i h
    induction kvs with
    | nil => simp at h
    | cons a l ih =>
      unfold valueAt at *
      simp only [List.map_cons, List.find?_cons]
      by_cases ha : a.1 = k
      · by_cases hx : x = k
        · subst hx; simp [ha]
        · have hx' : ¬ k = x := fun e => hx e.symm
          simp only [ha, if_true, hx', hx, decide_false]
          by_cases hl : l.any (fun kv => decide (kv.1 = k)) = true
          · have := ih hl; simp only [hx, if_false] at this; exact this
          · have : l.map (fun kv => if kv.1 = k then (kv.1, v) else kv) = l := by
              have hl' : ∀ b ∈ l, b.1 ≠ k := fun b hb q => hl (List.any_eq_true.mpr ⟨b, hb, by simpa using q⟩)
              have : ∀ l : List (Int × Value), (∀ b ∈ l, b.1 ≠ k) → l.map (fun kv => if kv.1 = k then (kv.1, v) else kv) = l := by
                intro l
                induction l with
                | nil => intro _; rfl
                | cons b l ih => intro h; rw [List.map_cons, if_neg (h b (.head _)), ih fun c hc => h c (.tail _ hc)]
              exact this l hl'
            rw [this]; simp
      · have hl : l.any (fun kv => decide (kv.1 = k)) = true := by simpa [ha] using h
        have := ih hl
        simp only [ha, if_false]
        by_cases hax : a.1 = x
        · have : ¬ x = k := fun e => ha (hax.trans e)
          simp [hax, this]
        · simp only [hax, decide_false]; exact this
  · rename_i h
    unfold valueAt
    rw [List.find?_append]
    have h' : ∀ b ∈ kvs, b.1 ≠ k := fun b hb q => h (List.any_eq_true.mpr ⟨b, hb, by simpa using q⟩)
    by_cases hx : x = k
    · subst hx
      have : kvs.find? (fun kv => decide (kv.1 = x)) = none := List.find?_eq_none.mpr fun b hb q => h' b hb (by simpa using q)
      simp [this]
    · have hx' : ¬ k = x := fun e => hx e.symm
      simp [hx, hx']
theorem pigeon : ∀ (n : Nat) (l : List Int), l.Nodup → (∀ x ∈ l, 0 ≤ x ∧ x < n) → l.length ≤ n
  | 0, [], _, _ => Nat.le_refl _
  | 0, a :: l, _, h => by have := h a (.head _); omega
  | n + 1, l, nd, h => by
    have e := pigeon n (l.erase (n : Int)) (nd.erase _) fun x hx => by
      have := (List.Nodup.mem_erase_iff nd).mp hx
      have := h x this.2
      omega
    have := List.le_length_erase (a := (n : Int)) (l := l)
    omega
def CalIn (c : Int → Option Int) : Prop := ∀ k, c k ≠ none → 0 ≤ k ∧ k < 4
theorem cal_len {kvs : List (Int × Value)} {c : Int → Option Int} (nd : (kvs.map (·.1)).Nodup) (h : CalIs kvs c) (hc : CalIn c) : kvs.length ≤ 4 := by
  have := pigeon 4 (kvs.map (·.1)) nd fun x hx => by
    obtain ⟨kv, hkv, rfl⟩ := List.mem_map.mp hx
    refine hc _ fun e => ?_
    rcases h kv.1 with ⟨h1, _⟩ | ⟨n, t, _, h2⟩
    · unfold valueAt at h1
      have := List.find?_eq_none.mp (Option.map_eq_none_iff.mp h1) kv hkv
      simp at this
    · rw [e] at h2; cases h2
  simpa using this
section
variable {prog : Program} {w : World} {A : Around} {E : Value → Shared → Prop} {s : Shared} {I : Kn}
theorem keep_b {M : Model} {id : String} : Keeps M I (.builtin id) := fun _ _ => ⟨.machine, .inr (.inl rfl), Looks.of_pure rfl⟩
theorem keep_t {M : Model} {id : String} : Keeps M I (.type id) := fun _ _ => ⟨.machine, .inr (.inl rfl), Looks.of_pure rfl⟩
theorem isTup {n : Int} {t : Tok} : wpAny (model prog w) A (call (.builtin "isinstance") [.int n t, .type "tuple"]) (fun v s' => v = .bool false ∧ ∃ tk, s' = { s with toks := tk }) NoE s :=
  IsiPair.int_tuple ⟨rfl, _, rfl⟩
theorem cal_ne1 {P : Params} {h : Heap} {d : Addr} {o : Obj} {kvs : List (Int × Value)} (k : Ok P I h) (hd : I d = some o) (c : CalO prog w o kvs) : d ≠ 1 := by
  intro e
  subst e
  have e1 := k.prog 1 _ (show (KK P).lookup 1 = some _ from by rfl) (by decide) (by decide) (by decide)
  rw [e1] at hd
  cases hd
  obtain ⟨es, ep, c1, c2, c3, c4, c5⟩ := c
  have := c3
  injection c2 with c2 _
  subst c2
  obtain ⟨x, hx, _⟩ := c3 _ (Array.mem_of_getElem? (i := 0) (by rfl))
  cases hx
theorem addCallers {td sd : Addr} {c : Int → Option Int} {who : Int} {os : Obj} {t1 : Tok} (k : Ok w.params I s.heap) (r : Room A 20) (ht : isCal prog w I td c) (hs : I sd = some os) (hsc : CalO prog w os [(who, .int 1 t1)]) (hcr : CalIn c) :
    Ends prog w A I (call (.ref 72) [.ref td, .ref sd]) (fun I' v => ∃ D, v = .ref D ∧ isCal prog w I' D (addCal c who)) s := by
  have k0 := k
  refine enter (fd := _) (binds := [("target", .ref td), ("source", .ref sd)]) (fun _ => []) k r.lim (k.prog 72 _ (by rfl) (by decide) (by decide) (by decide)) (by rfl) ⟨71, _, _, _, by rfl, k.prog 71 _ (by rfl) (by decide) (by decide) (by decide), by rfl, by rfl⟩ (by rfl) (by rfl) (locs (by rfl)) (fun L h₁ tk hL S => ?_)
  refine genQ fun Q0 hQ0 => ?_
  obtain ⟨ot, kvs, et, hc, hci⟩ := ht
  have n1 := cal_ne1 k et hc
  have nd : (kvs.map (·.1)).Nodup := by obtain ⟨_, _, _, _, _, _, nd⟩ := hc; exact nd
  have hlen := cal_len nd hci hcr
  have n2 := cal_ne1 k hs hsc
  refine wpAny_execs_cons (wpAny_Assign_Name (wpAny_Dict_empty ?_))
  refine st (S.push (o := { cls := .type "dict", data := .dict #[] }) rfl) fun h2 tk2 S2 => ?_
  refine wpAny_execs_cons (wpAny_For (wpAny_Call_items (knd := intKind prog w) (beq_eq_false_iff_ne.mpr n1) (hc.of (S2.ok.inh _ _ et)) rfl rfl (fun Q' hq => ld S2 (by rfl) hq) ?_))
  have S3 := S2.silent (h' := h2.push { cls := .type "dict_items", data := .fields #[.ref td] }) (fun b o e => Heap.get?_push_of_some _ e)
  dsimp only at S2 S3 ⊢
  have hD := (S2.own _ (.head _)).1
  generalize h₁.objs.size = D at *
  have e0 : CalO prog w { cls := .type "dict", data := .dict #[] } [] := ⟨#[], 0, ⟨rfl, rfl, rfl⟩, rfl, fun e he => (by simp at he), .nil, List.nodup_nil⟩
  refine for_items (s := { s with heap := h2.push { cls := .type "dict_items", data := .fields #[.ref td] }, toks := tk2 }) (Q := _) r.hd et hc S3 ⟨_, Heap.get?_push_size _ rfl, rfl, rfl⟩
    (fun i I₁ m₁ mu₁ => I₁ = I ∧ m₁ (Str.ofString "source") = some (.ref sd) ∧ m₁ (Str.ofString "new_callers") = some (.ref D) ∧ ∃ oD, mu₁ = [(D, oD)] ∧ CalO prog w oD (kvs.take i)) ⟨rfl, rfl, rfl, _, rfl, e0⟩ ?_ ?_ rfl rfl rfl rfl
  · rintro i kk x key I₁ m₁ mu₁ s₁ it oit hx hkey hle ⟨rfl, m1, m2, oD, rfl, cD⟩ S4 hsame
    refine genQ fun Q1 hQ1 => ?_
    refine wpAny_execs_cons (wpAny_Assign_Subscript (ld S4 (v := x) (by rfl) (ld S4 (v := .ref D) (by exact m2) (ld S4 (v := key) (by rfl) ?_))))
    refine setSt (S4.swap) cD hkey (by rw [List.length_take]; omega) fun h' tk' o' c' S5 => wpAny_execs_nil (hQ1 _ _ ?_)
    rw [stored_take nd hx] at c'
    refine ⟨rfl, I₁, _, _, hsame.both, le.refl _, ?_, S5.swap⟩
    exact ⟨rfl, m1, m2, o', rfl, c'⟩
  · rintro I₁ m₁ mu₁ s₁ hle ⟨rfl, m1, m2, oD, rfl, cD⟩ S4 hsame
    rw [List.take_length] at cD
    refine wpAny_execs_cons (wpAny_For (wpAny_Call_items (knd := intKind prog w) (beq_eq_false_iff_ne.mpr n2) (hsc.of (S4.ok.inh _ _ hs)) rfl rfl (fun Q' hq => ld S4 (by exact m1) hq) ?_))
    have S6 := S4.silent (h' := s₁.heap.push { cls := .type "dict_items", data := .fields #[.ref sd] }) (fun b o e => Heap.get?_push_of_some _ e)
    refine for_items (s := { s₁ with heap := s₁.heap.push { cls := .type "dict_items", data := .fields #[.ref sd] } }) (Q := _) r.hd hs hsc S6 ⟨_, Heap.get?_push_size _ rfl, rfl, rfl⟩
      (fun i I₂ m₂ mu₂ => I₂ = I₁ ∧ m₂ (Str.ofString "new_callers") = some (.ref D) ∧ ∃ oD kv2, mu₂ = [(D, oD)] ∧ CalO prog w oD kv2 ∧ CalIs kv2 (if i = 0 then c else addCal c who) ∧ (i = 0 → kv2.length ≤ 4)) ⟨rfl, m2, oD, kvs, rfl, cD, hci, fun _ => hlen⟩ ?_ ?_ rfl rfl rfl rfl
    · rintro i kk x key I₂ m₂ mu₂ s₂ it oit hx ⟨tkk, rfl⟩ hle2 ⟨rfl, m3, oD, kv2, rfl, cD2, hci2, hl2⟩ S7 hsame2
      refine genQ fun Q2 hQ2 => ?_
      have hi0 : i = 0 := by
        have := (List.getElem?_eq_some_iff.mp hx).1
        simp at this; exact this
      subst hi0
      cases hx
      have own7 := S7.own _ (.tail _ (.head _))
      have nD : (D == sysModules) = false := beq_eq_false_iff_ne.mpr fun e => by
        have e1 := k0.inh _ _ (k0.prog 1 _ (show (KK w.params).lookup 1 = some _ from by rfl) (by decide) (by decide) (by decide))
        have := own7.2.2.2
        dsimp only at this
        rw [e] at this
        rw [show s.heap.get? sysModules = s.heap.get? 1 from rfl, e1] at this; cases this
      have hl2' := hl2 rfl
      simp only [if_true] at hci2
      refine wpAny_execs_cons (wpAny_If (wpAny_isTrue_Compare1 (ld S7 (v := .int who tkk) (by rfl) (ld S7 (v := .ref D) (by exact m3) (wpAny_in_of (knd := intKind prog w) (intKind_is _ _ _ _) nD (cD2.of own7.1).mapOf (wpAny_truthy_bool ?_))))))
      refine ite_bool (fun hb => ?_) (fun hb => ?_)
      · refine wpAny_execs_cons (wpAny_If (wpAny_isTrue_value (Call_Name rfl (ldB S7.ok (v := .builtin "isinstance") (by kernel_rfl!) (by kernel_rfl!) (callN (I := I₂) keep_b (spliced_more (ld S7 (v := .int 1 t1) (by rfl) (spliced_more (ldB S7.ok (v := .type "tuple") (by kernel_rfl!) (by kernel_rfl!) (spliced_none ⟨S7.ok.inh, ?_⟩))))))))))
        refine wpAny_mono isTup (fun v s' hv => ?_) (fun _ _ z => z.elim)
        obtain ⟨rfl, tk', rfl⟩ := hv
        refine wpAny_truthy_bool ?_
        rcases hci2 who with ⟨h1, _⟩ | ⟨n, tn, h1, h2⟩
        · have : (fun k => valueAt kv2 k) who = none := h1
          rw [h1] at hb; cases hb
        · refine wpAny_execs_cons (wpAny_AugAssign_Subscript (ld S7 (v := .ref D) (by exact m3) (ld S7 (v := .int who tkk) (by rfl) (wpAny_getItem_of (knd := intKind prog w) (intKind_is _ _ _ _) (cD2.of own7.1).mapOf h1 (ld S7 (v := .int 1 t1) (by rfl) ?_)))))
          refine wpAny_iadd_int ?_
          refine setSt (S7.swap) cD2 ⟨_, rfl⟩ (by omega) fun h' tk' o' c' S8 => wpAny_execs_nil (wpAny_execs_nil (wpAny_execs_nil (hQ2 _ _ ?_)))
          refine ⟨rfl, I₂, _, _, hsame2.both, le.refl _, ?_, S8.swap⟩
          refine ⟨rfl, m3, o', _, rfl, c', ?_, fun z => by cases z⟩
          intro x
          rw [valueAt_stored]
          by_cases hx : x = who
          · subst hx
            refine .inr ⟨n + 1, _, by rw [if_pos rfl], ?_⟩
            simp [addCal, h2]
          · simp only [hx, if_false]
            have := hci2 x
            simpa [addCal, hx] using this
      · refine wpAny_execs_cons (wpAny_Assign_Subscript (ld S7 (v := .int 1 t1) (by rfl) (ld S7 (v := .ref D) (by exact m3) (ld S7 (v := .int who tkk) (by rfl) ?_))))
        refine setSt (S7.swap) cD2 ⟨_, rfl⟩ (by omega) fun h' tk' o' c' S8 => wpAny_execs_nil (wpAny_execs_nil (hQ2 _ _ ?_))
        refine ⟨rfl, I₂, _, _, hsame2.both, le.refl _, ?_, S8.swap⟩
        refine ⟨rfl, m3, o', _, rfl, c', ?_, fun z => by cases z⟩
        intro x
        rw [valueAt_stored]
        have hn : valueAt kv2 who = none := by cases q : valueAt kv2 who with | none => rfl | some v => rw [q] at hb; cases hb
        have hcn : c who = none := by rcases hci2 who with ⟨_, h2⟩ | ⟨n, t, h1, _⟩; exact h2; rw [hn] at h1; cases h1
        by_cases hx : x = who
        · subst hx
          refine .inr ⟨1, t1, by simp, ?_⟩
          simp [addCal, hcn]
        · simp only [hx, if_false]
          have := hci2 x
          simpa [addCal, hx] using this
    · rintro I₂ m₂ mu₂ s₂ hle2 ⟨rfl, m3, oD, kv2, rfl, cD2, hci2, hl2⟩ S7 hsame2
      refine wpAny_execs_cons (wpAny_Return_some (ld S7 (by exact m3) ?_))
      have S8 := S7.freeze
      refine hQ0 _ _ <| leave (R := fun I' v => ∃ D, v = .ref D ∧ isCal prog w I' D (addCal c who)) S8 ?_ ⟨D, rfl, oD, kv2, put_self _ _ _, cD2, by simpa using hci2⟩
      exact ((Same.mk (s := s)).trans hsame).heap.trans hsame2
end
end Mine

-- part LStats
set_option maxRecDepth 100000
set_option maxHeartbeats 0
set_option pp.deepTerms false
set_option pp.maxSteps 2500
namespace Mine
open PySem PySem.W PySem.W.X PyProof.Rows PySem.Calls
section
variable {P : Params} {prog : Program} {w : World} {A : Around} {E : Value → Shared → Prop} {s : Shared} {env : Env} {X : List Addr} {h₀ h h' : Heap} {I₀ I : Kn} {L : Addr} {m : Str → Option Value} {mu : List (Addr × Obj)}
-- five names get a tuple's parts
theorem assign5 {t : Addr} {n : Nat} {v1 v2 v3 v4 v5 : Value} {x1 x2 x3 x4 x5 : Str} {p1 p2 p3 p4 p5 pos : Pos} {k1 : Nat} {Q : Unit → Shared → Prop} (hh : A.handled = none) (S : St P X h₀ I₀ I L m mu s.heap) (ht : s.heap.get? t = some (tupO [v1, v2, v3, v4, v5] n))
    (h : ∀ h' tk, St P X h₀ I₀ I L (fun z => if z = x5 then some v5 else if z = x4 then some v4 else if z = x3 then some v3 else if z = x2 then some v2 else if z = x1 then some v1 else m z) mu h' → Q () { s with heap := h', toks := tk })
    (hk : env.scope.kind = .function := by rfl) (hx1 : env.kindOf x1 = some .local := by rfl) (hx2 : env.kindOf x2 = some .local := by rfl) (hx3 : env.kindOf x3 = some .local := by rfl) (hx4 : env.kindOf x4 = some .local := by rfl) (hx5 : env.kindOf x5 = some .local := by rfl) (hL : env.locals = L := by rfl) :
    wpAny (model prog w) A (assign (.Tuple [.Name x1 p1, .Name x2 p2, .Name x3 p3, .Name x4 p4, .Name x5 p5] k1 pos) env (.ref t)) Q E s := by
  refine wpAny_assign_Tuple hh ⟨_, ht, rfl, _, rfl⟩ rfl rfl fun h' he => ?_
  have S1 := S.silent (size_silent he)
  show wpAny _ _ (do holding [v2, v3, v4, v5] (assign (.Name x1 p1) env v1); do holding [v3, v4, v5] (assign (.Name x2 p2) env v2); do holding [v4, v5] (assign (.Name x3 p3) env v3); do holding [v5] (assign (.Name x4 p4) env v4); do holding [] (assign (.Name x5 p5) env v5); pure ()) _ _ _
  refine wpAny_bind (wpAny_holding (wpAny_assign_Name (st S1 (fun h₂ tk S2 => ?_) hk hx1 hL)))
  refine wpAny_bind (wpAny_holding (wpAny_assign_Name (st S2 (fun h₃ tk S3 => ?_) hk hx2 hL)))
  refine wpAny_bind (wpAny_holding (wpAny_assign_Name (st S3 (fun h₄ tk S4 => ?_) hk hx3 hL)))
  refine wpAny_bind (wpAny_holding (wpAny_assign_Name (st S4 (fun h₅ tk S5 => ?_) hk hx4 hL)))
  refine wpAny_bind (wpAny_holding (wpAny_assign_Name (st S5 (fun h₆ tk S6 => wpAny_pure ?_) hk hx5 hL)))
  exact h _ _ S6
end
-- the first five of a row, or what a call brings
inductive isFive (prog : Program) (w : World) (I : Kn) (v : Value) (a b c d : Int) (f : Int → Option Int) : Prop
  | mk (t : Addr) (n : Nat) (t0 t1 t2 t3 : Tok) (dd : Addr) (e : v = .ref t) (h1 : I t = some (tupO [.int a t0, .int b t1, .int c t2, .int d t3, .ref dd] n)) (h2 : isCal prog w I dd f) : isFive prog w I v a b c d f
theorem isFive.mono {prog : Program} {w : World} {I J : Kn} {v : Value} {a b c d : Int} {f : Int → Option Int} (h : isFive prog w I v a b c d f) (l : le I J) : isFive prog w J v a b c d f := by
  obtain ⟨t, n, t0, t1, t2, t3, dd, e, h1, h2⟩ := h
  exact ⟨t, n, t0, t1, t2, t3, dd, e, l _ _ h1, h2.mono l⟩
section
variable {prog : Program} {w : World} {A : Around} {E : Value → Shared → Prop} {s : Shared} {I : Kn}
theorem obj72 (P : Params) : ∃ c d fd sl, (KK P).lookup 72 = some ⟨c, d, .func fd, sl⟩ := ⟨_, _, _, _, by rfl⟩
-- add_func_stats
theorem addStats {tv : Value} {a0 a1 a2 a3 b0 b1 b2 b3 who : Int} {c : Int → Option Int} {sa sd : Addr} {os : Obj} {t0 t1 t2 t3 t4 : Tok} {n : Nat} (k : Ok w.params I s.heap) (r : Room A 40) (ht : isFive prog w I tv a0 a1 a2 a3 c) (hcr : CalIn c)
    (hs : I sa = some (tupO [.int b0 t0, .int b1 t1, .int b2 t2, .int b3 t3, .ref sd] n)) (hsd : I sd = some os) (hsc : CalO prog w os [(who, .int 1 t4)]) :
    Ends prog w A I (call (.ref 65) [tv, .ref sa]) (fun I' v => isFive prog w I' v (b0 + a0) (b1 + a1) (b2 + a2) (b3 + a3) (addCal c who)) s := by
  refine enter (fd := _) (binds := [("target", tv), ("source", .ref sa)]) (fun _ => []) k r.lim (k.prog 65 _ (by rfl) (by decide) (by decide) (by decide)) (by rfl) ⟨64, _, _, _, by rfl, k.prog 64 _ (by rfl) (by decide) (by decide) (by decide), by rfl, by rfl⟩ (by rfl) (by rfl) (locs (by rfl)) (fun L h₁ tk hL S => ?_)
  refine genQ fun Q0 hQ0 => ?_
  obtain ⟨ta, tn, u0, u1, u2, u3, td, rfl, hta, htc⟩ := ht
  obtain ⟨oc, od, ofd, osl, e72⟩ := obj72 w.params
  have i72 := k.prog 72 _ e72 (by decide) (by decide) (by decide)
  refine wpAny_execs_cons (Assign_Tuple (ld S (by rfl) (assign5 r.hd S (S.ok.inh _ _ hs) fun h2 tk2 S2 => ?_)))
  refine wpAny_execs_cons (Assign_Tuple (ld S2 (v := .ref ta) (by rfl) (assign5 r.hd S2 (S2.ok.inh _ _ hta) fun h3 tk3 S3 => ?_)))
  refine wpAny_execs_cons (wpAny_Return_some (wpAny_Tuple_spliced ?_))
  refine spliced_more (wpAny_BinOp (ld S3 (by rfl) (ld S3 (by rfl) (PyProof.Rows.add_int ?_))))
  refine spliced_more (wpAny_BinOp (ld S3 (by rfl) (ld S3 (by rfl) (PyProof.Rows.add_int ?_))))
  refine spliced_more (wpAny_BinOp (ld S3 (by rfl) (ld S3 (by rfl) (PyProof.Rows.add_int ?_))))
  refine spliced_more (wpAny_BinOp (ld S3 (by rfl) (ld S3 (by rfl) (PyProof.Rows.add_int ?_))))
  refine spliced_more (Call_Name rfl (ldG S3.ok (v := .ref 72) (by kernel_rfl!) (callN (keep_fn i72) (spliced_more (ld S3 (v := .ref td) (by rfl) (spliced_more (ld S3 (v := .ref sd) (by rfl) (spliced_none ⟨S3.ok.inh, ?_⟩))))))))
  refine (addCallers (A := A.deeper _) S3.ok (Room.deeper (r.mono (by decide))) htc hsd hsc hcr).use fun v I' h' tk' g hv => ?_
  obtain ⟨D, rfl, hD⟩ := hv
  have S4 := S3.grow g
  refine spliced_none ⟨by show 5 ≤ sizeLine; decide, ?_⟩
  refine hQ0 _ _ <| leave (R := fun I' v => isFive prog w I' v (b0 + a0) (b1 + a1) (b2 + a2) (b3 + a3) (addCal c who)) (St.freeze (St.push S4 rfl)) ⟨_, _, rfl⟩ ?_
  exact ⟨_, _, _, _, _, _, D, rfl, put_self _ _ _, hD.mono (le_put (push_none S4.ok.inh))⟩
end
end Mine

-- part LSeq
set_option maxRecDepth 100000
set_option maxHeartbeats 0
set_option pp.deepTerms false
set_option pp.maxSteps 2500
namespace Mine
open PySem PySem.W PySem.W.X PyProof.Rows PySem.Calls
section
variable {prog : Program} {w : World} {A : Around} {E : Value → Shared → Prop} {s : Shared} {env : Env}
theorem add_listsH {l b : Addr} {vs ws : List Value} {n n2 : Nat} {Q : Value → Shared → Prop} (ho : s.heap.get? l = some (listO vs n)) (ho2 : s.heap.get? b = some (listO ws n2))
    (h : Q (.ref s.heap.objs.size) { s with heap := s.heap.push (listO (vs ++ ws) 0) })
    (hsz : vs.length + ws.length ≤ sizeLine) : wpAny (model prog w) A (binaryOp .Add (.ref l) (.ref b)) Q E s := by
  have e : vs.toArray ++ ws.toArray = (vs ++ ws).toArray := by simp
  refine concat_meets ⟨_, ho, rfl⟩ ⟨_, ho2, rfl⟩ noFill_list_add seq_list_add PySem.F.slot_list_add PySem.F.entry_list_add (PySem.F.args_list_add_2 _ _) (list_addW l b vs.toArray ws.toArray n n2 none none #[] #[] (by simpa using hsz)) ⟨ho, ho2, ?_⟩
  rw [e]
  exact h
theorem add_tuplesH {t b : Addr} {vs ws : List Value} {n n2 : Nat} {Q : Value → Shared → Prop} (ho : s.heap.get? t = some (tupO vs n)) (ho2 : s.heap.get? b = some (tupO ws n2)) (hv : vs ≠ []) (hw : ws ≠ [])
    (h : Q (.ref s.heap.objs.size) { s with heap := s.heap.push (tupO (vs ++ ws) 0) })
    (hsz : vs.length + ws.length ≤ sizeLine) : wpAny (model prog w) A (binaryOp .Add (.ref t) (.ref b)) Q E s := by
  have e : vs.toArray ++ ws.toArray = (vs ++ ws).toArray := by simp
  refine concat_meets ⟨_, ho, rfl⟩ ⟨_, ho2, rfl⟩ noFill_tuple_add seq_tuple_add PySem.F.slot_tuple_add PySem.F.entry_tuple_add (PySem.F.args_tuple_add_2 _ _)
        (tuple_addW2 t b vs.toArray ws.toArray n n2 none none #[] #[] (by simpa using hv) (by simpa using hw) (by rw [List.size_toArray, List.size_toArray]; exact hsz)) ⟨ho, ho2, ?_⟩
  rw [e]
  exact h
theorem getItem_tup5 {t sl : Addr} {v1 v2 v3 v4 v5 v6 : Value} {n : Nat} {u : Tok} {Q : Value → Shared → Prop} (ht : s.heap.get? t = some (tupO [v1, v2, v3, v4, v5, v6] n)) (hs : s.heap.IsSliceOf sl .none (.int 5 u) .none)
    (h : Q (.ref s.heap.objs.size) { s with heap := s.heap.push (tupO [v1, v2, v3, v4, v5] 0) }) : wpAny (model prog w) A (getItem (.ref t) (.ref sl)) Q E s := by
  obtain ⟨os, hos, hcs, hds⟩ := id hs
  have ht' : IsTup s.heap t #[v1, v2, v3, v4, v5, v6] := ⟨_, ht, rfl, _, rfl⟩
  have hTs : s.TypeIs (.ref sl) "slice" := ⟨os, hos, hcs⟩
  have sla : ∀ (A : Around) (E : Value → Shared → Prop) (Q : Int × Int × Nat → Shared → Prop), Q ((0 : Int), 1, 5) s → wpAny (model prog w) A (Builtin.Slice.sliceApplied (.ref sl) (pure ((6 : Nat) : Int))) Q E s := fun A E Q h => by
    unfold Builtin.Slice.sliceApplied Builtin.Slice.sliceFields
    refine wpAny_bind (wpAny_bind (wpAny_field hos hds (x := .none) rfl (wpAny_bind (wpAny_field hos hds (x := .int 5 u) rfl (wpAny_bind (wpAny_field hos hds (x := .none) rfl (wpAny_pure ?_)))))))
    refine wpAny_bind (slicePart_none ?_)
    show wpAny _ _ (if ((1 : Int) == 0) = true then _ else _) _ _ s
    rw [if_neg (by decide)]
    refine wpAny_bind (slicePart_none (wpAny_bind (slicePart_int (wpAny_bind (wpAny_pure ?_)))))
    exact wpAny_pure h
  unfold getItem
  try with_reducible refine wpAny_holding ?_
  first | refine wpAny_bind (wpAny_pure ?_) | skip
  refine wpAny_bind (wpAny_sequenceKey ht'.typeIs (by decide) ?_)
  refine wpAny_bind (wpAny_callSpecial?_slot (name := Str.ofString "__getitem__") ht'.typeIs slot_tuple_getitem
    (wpAny_call_entry slot_tuple_getitem ht'.typeIs entry_tuple_getitem ?_ (args_tuple_getitem _ _)))
  show wpAny _ _ (Builtin.Tuple.tupleItemsOf (.ref t) >>= _) _ _ s
  refine wpAny_bind (tupleItemsOf_ ht' ?_)
  refine wpAny_bind (wpAny_typeOf hTs ?_)
  rw [if_pos (by decide)]
  refine wpAny_bind (sla _ _ _ ?_)
  show wpAny _ _ (if ((0 : Int) == 0 && (1 : Int) == 1 && 5 == 6) = true then _ else _) _ _ s
  rw [if_neg (by decide)]
  have hdrop : sizeOk (.seq [v1, v2, v3, v4, v5].toArray) := by show 5 ≤ sizeLine; decide
  first
    | exact wpAny_bind (m := Builtin.Tuple.tupleExact _) (wpAny_newObj_type (wpAny_pure ⟨_, rfl, wpAny_pure h⟩) hdrop)
    | exact wpAny_bind (m := Builtin.Tuple.tupleExact _) (wpAny_newObj_type (wpAny_bind (wpAny_pure (wpAny_pure ⟨_, rfl, wpAny_pure h⟩))) hdrop)
    | exact wpAny_bind (wpAny_bind (m := Builtin.Tuple.tupleExact _) (wpAny_newObj_type (wpAny_pure (wpAny_pure ⟨_, rfl, wpAny_pure h⟩)) hdrop))
    | exact wpAny_bind (wpAny_bind (m := Builtin.Tuple.tupleExact _) (wpAny_newObj_type (wpAny_pure ⟨_, rfl, wpAny_pure h⟩) hdrop))
end
end Mine

-- part LFilt
set_option maxRecDepth 100000
set_option maxHeartbeats 0
set_option pp.deepTerms false
set_option pp.maxSteps 2500
namespace Mine
open PySem PySem.W PySem.W.X PyProof.Rows PySem.Calls
theorem All2.take {α β : Type} {R : α → β → Prop} {as : List α} {bs : List β} (h : All2 R as bs) (i : Nat) : All2 R (as.take i) (bs.take i) := by
  induction h generalizing i with
  | nil => simp; exact .nil
  | cons x _ ih =>
    cases i with
    | zero => exact .nil
    | succ i => exact .cons x (ih i)
theorem All2.drop {α β : Type} {R : α → β → Prop} {as : List α} {bs : List β} (h : All2 R as bs) (i : Nat) : All2 R (as.drop i) (bs.drop i) := by
  induction h generalizing i with
  | nil => simp; exact .nil
  | cons x r ih =>
    cases i with
    | zero => exact .cons x r
    | succ i => exact ih i
theorem All2.reverse {α β : Type} {R : α → β → Prop} {as : List α} {bs : List β} (h : All2 R as bs) : All2 R as.reverse bs.reverse := by
  induction h with
  | nil => exact .nil
  | cons x _ ih => rw [List.reverse_cons, List.reverse_cons]; exact ih.append (.cons x .nil)
section
variable {prog : Program} {w : World} {A : Around} {E : Value → Shared → Prop} {s : Shared} {I : Kn} {env : Env}
-- [x for x in l if test]
theorem comp_filter {α : Type} {R : Kn → Value → α → Prop} {iter c : PySem.Expr} {x : Str} {px pe : Pos} {scope : Scope} {cl : List (Str × Addr)} {pos : Pos} {use : Option (Value → Sem Unit)} {Q : Value → Shared → Prop} {l : Addr} {vs : List Value} {xs : List α} {ep : Nat} (p : α → Bool)
    (mono : ∀ I J v y, R I v y → le I J → R J v y)
    (k : Ok w.params I s.heap) (hh : A.handled = none) (hl : I l = some (listO vs ep)) (hR : All2 (R I) vs xs) (hn : vs.length ≤ 1000)
    (turn : ∀ v y I₁ C m₁ mu₁ s₁, y ∈ xs → R I₁ v y → le I I₁ → m₁ x = some v → St w.params [93] s.heap I I₁ C m₁ mu₁ s₁.heap → Same s s₁ →
      wpAny (model prog w) A (isTrue c (compEnvC scope cl C env) (eval c (compEnvC scope cl C env))) (fun ok s₃ => ok = p y ∧ ∃ I₂, Same s s₃ ∧ le I₁ I₂ ∧ St w.params [93] s.heap I I₂ C m₁ mu₁ s₃.heap) NoE s₁)
    (hq : ∀ D C I₁ m₁ ys n mu₁ s₁, le I I₁ → All2 (R I₁) ys (xs.filter p) → St w.params [93] s.heap I I₁ C m₁ ((D, listO ys n) :: mu₁) s₁.heap → Same s s₁ → compPost (model prog w) A E use Q (.ref D) C (.ok .next) s₁)
    (hcell : ∀ y ∈ scope.names, y.2 ≠ .cell) (hkind : scope.kind = .function) (hx : scope.names.lookup x = some .local) (hd : (x == ("__debug__" : Str)) = false) :
    CompRest prog w A E env (.Name x pe) x px iter [c] scope cl pos use Q (.ref l) s := by
  refine comp_list k hh hl hn hcell hkind hx (fun i I₁ ys => All2 (R I₁) ys ((xs.take i).filter p)) (by simp; exact .nil) (fun i I₁ ys h => ?_) ?_ ?_
  · rw [h.length]
    exact Nat.le_trans (List.length_filter_le ..) (by rw [List.length_take]; omega)
  · intro i v I₁ C m₁ mu₁ ys s₁ hv hle hJ hm S hs
    obtain ⟨y, hy, hRy⟩ := hR.get hv
    have ht : xs.take (i + 1) = xs.take i ++ [y] := by rw [List.take_add_one, hy]; rfl
    refine tests_one (wpAny_mono (turn v y I₁ C m₁ mu₁ s₁ (List.mem_of_getElem? hy) (mono _ _ _ _ hRy hle) hle hm S hs) (fun ok s₃ h₃ => ?_) fun _ _ z => z)
    obtain ⟨rfl, I₂, a, b, S2⟩ := h₃
    by_cases hp : p y = true
    · rw [if_pos hp]
      refine ld S2 hm ⟨I₂, _, a, b, ?_, S2⟩ (by exact hkind) (lookup_relabel_local hx) rfl hd
      rw [ht, List.filter_append, show [y].filter p = [y] by simp [hp]]
      exact (hJ.imp fun _ _ z => mono _ _ _ _ z b).append (.cons (mono _ _ _ _ hRy (hle.trans b)) .nil)
    · rw [if_neg hp]
      refine ⟨I₂, _, a, b, ?_, S2⟩
      rw [ht, List.filter_append, show [y].filter p = [] by simp [hp], List.append_nil]
      exact hJ.imp fun _ _ z => mono _ _ _ _ z b
  · intro D C I₁ m₁ ys n mu₁ s₁ hle hJ S hs
    have e : vs.length = xs.length := hR.length
    rw [e, List.take_length] at hJ
    exact hq D C I₁ m₁ ys n mu₁ s₁ hle hJ S hs
end
end Mine

-- part LSeqE
set_option maxRecDepth 100000
set_option maxHeartbeats 0
set_option pp.deepTerms false
set_option pp.maxSteps 2500
namespace Mine
open PySem PySem.W PySem.W.X PyProof.Rows PySem.Calls
section
variable {P : Params} {prog : Program} {w : World} {A : Around} {E : Value → Shared → Prop} {s : Shared} {env : Env} {X : List Addr} {h₀ : Heap} {I₀ I : Kn} {L : Addr} {m : Str → Option Value} {mu : List (Addr × Obj)} {Q : Value → Shared → Prop}
-- what comes next, with a new object that stays
abbrev Next (P : Params) (X : List Addr) (h₀ : Heap) (I₀ I : Kn) (L : Addr) (m : Str → Option Value) (mu : List (Addr × Obj)) (Q : Value → Shared → Prop) (s : Shared) (o : Obj) : Prop :=
  ∀ I' a s', le I I' → I' a = some o → I a = none → Same s s' → St P X h₀ I₀ I' L m mu s'.heap → Q (.ref a) s'
theorem next_push {o : Obj} (S : St P X h₀ I₀ I L m mu s.heap) (hf : o.isFreed = false) (h : Next P X h₀ I₀ I L m mu Q s o) : Q (.ref s.heap.objs.size) { s with heap := s.heap.push o } :=
  h _ _ _ (le_put (push_none S.ok.inh)) (put_self _ _ _) (push_none S.ok.inh) ⟨_, _, rfl⟩ (S.push hf).freeze
def Wi (Q : Value → Shared → Prop) (s : Shared) (o : Obj) : Prop := ∃ P X h₀ I₀ I L m mu, St P X h₀ I₀ I L m mu s.heap ∧ Next P X h₀ I₀ I L m mu Q s o
theorem wi {o : Obj} (S : St P X h₀ I₀ I L m mu s.heap) (h : Next P X h₀ I₀ I L m mu Q s o) : Wi Q s o := ⟨P, X, h₀, I₀, I, L, m, mu, S, h⟩
theorem Wi.push {o : Obj} (x : Wi Q s o) (hf : o.isFreed = false) : Q (.ref s.heap.objs.size) { s with heap := s.heap.push o } := by
  obtain ⟨P, X, h₀, I₀, I, L, m, mu, S, h⟩ := x
  exact next_push S hf h
-- a known list, and what comes behind a slice of it
def WiL (lo hi st : Option Int) (Q : Value → Shared → Prop) (s : Shared) (l : Addr) : Prop := ∃ P X h₀ I₀ I L m mu vs n, St P X h₀ I₀ I L m mu s.heap ∧ I l = some (listO vs n) ∧ vs.length ≤ 1000 ∧ ∀ ws, slicePick vs.toArray lo hi st = ws.toArray → Next P X h₀ I₀ I L m mu Q s (listO ws 0)
theorem wil {l : Addr} {vs : List Value} {n : Nat} {lo hi st : Option Int} (S : St P X h₀ I₀ I L m mu s.heap) (hl : I l = some (listO vs n)) (hz : vs.length ≤ 1000) (h : ∀ ws, slicePick vs.toArray lo hi st = ws.toArray → Next P X h₀ I₀ I L m mu Q s (listO ws 0)) : WiL lo hi st Q s l := ⟨P, X, h₀, I₀, I, L, m, mu, vs, n, S, hl, hz, h⟩
theorem tupE {elts : List PySem.Expr} {x1 : Nat} {pos : Pos}
    (h : wpAny (model prog w) A (spliced (backTo pos (starEach elts env))) (fun vs s₁ => vs.length ≤ 100 ∧ Wi Q s₁ (tupO vs 0)) E s) :
    wpAny (model prog w) A (eval (.Tuple elts x1 pos) env) Q E s :=
  wpAny_Tuple_spliced (wpAny_mono h (fun vs s₁ ⟨h1, h2⟩ => ⟨by rw [sizeLine_eq]; omega, h2.push rfl⟩) fun _ _ e => e)
theorem listE {elts : List PySem.Expr} {pos : Pos}
    (h : wpAny (model prog w) A (spliced (backTo pos (starEach elts env))) (fun vs s₁ => vs.length ≤ 100 ∧ Wi Q s₁ (listO vs 0)) E s) :
    wpAny (model prog w) A (eval (.List elts pos) env) Q E s :=
  wpAny_List (wpAny_mono h (fun vs s₁ ⟨h1, h2⟩ => ⟨by rw [sizeLine_eq]; omega, h2.push rfl⟩) fun _ _ e => e)
theorem dictE {pos : Pos} (S : St P X h₀ I₀ I L m mu s.heap) (h : Next P X h₀ I₀ I L m mu Q s { cls := .type "dict", data := .dict #[] }) : wpAny (model prog w) A (eval (.Dict [] [] pos) env) Q E s :=
  wpAny_Dict_empty (next_push S rfl h)
theorem addL {l b : Addr} {vs ws : List Value} {n n2 : Nat} (S : St P X h₀ I₀ I L m mu s.heap) (ho : I l = some (listO vs n)) (ho2 : I b = some (listO ws n2)) (hsz : vs.length + ws.length ≤ 1000)
    (h : Next P X h₀ I₀ I L m mu Q s (listO (vs ++ ws) 0)) : wpAny (model prog w) A (binaryOp .Add (.ref l) (.ref b)) Q E s :=
  add_listsH (S.ok.inh _ _ ho) (S.ok.inh _ _ ho2) (next_push S rfl h) (by rw [sizeLine_eq]; omega)
theorem addT {l b : Addr} {vs ws : List Value} {n n2 : Nat} (S : St P X h₀ I₀ I L m mu s.heap) (ho : I l = some (tupO vs n)) (ho2 : I b = some (tupO ws n2)) (hv : vs ≠ []) (hw : ws ≠ []) (hsz : vs.length + ws.length ≤ 1000)
    (h : Next P X h₀ I₀ I L m mu Q s (tupO (vs ++ ws) 0)) : wpAny (model prog w) A (binaryOp .Add (.ref l) (.ref b)) Q E s :=
  add_tuplesH (S.ok.inh _ _ ho) (S.ok.inh _ _ ho2) hv hw (next_push S rfl h) (by rw [sizeLine_eq]; omega)
-- l[lo:hi]
theorem sliceE {value : PySem.Expr} {lower upper : Option PySem.Expr} {p pos : Pos}
    (h : wpAny (model prog w) A (eval value env) (fun o s₁ => wpAny (model prog w) A (evalPart lower env) (fun vl s₂ => wpAny (model prog w) A (evalPart upper env) (fun vu s₃ =>
      ∃ l lo hi, o = .ref l ∧ IsPart vl lo ∧ IsPart vu hi ∧ WiL lo hi none Q s₃ l) E s₂) E s₁) E s)
    (ht : ∀ o r, letTemporaryGo value o r = pure () := by intro _ _; rfl) :
    wpAny (model prog w) A (eval (.Subscript value (.Slice lower upper none p) pos) env) Q E s := by
  refine wpAny_Subscript_list_slice (wpAny_mono h (fun o s₁ h₁ => wpAny_mono h₁ (fun vl s₂ h₂ => wpAny_mono h₂ (fun vu s₃ h₃ => ?_) fun _ _ e => e) fun _ _ e => e) fun _ _ e => e) ht
  obtain ⟨l, lo, hi, rfl, pl, pu, P, X, h₀, I₀, I, L, m, mu, vs, n, S, hl, hz, hq⟩ := h₃
  have S1 := S.silent (h' := s₃.heap.push { cls := .type "slice", data := .fields #[vl, vu, .none] }) (fun b o e => Heap.get?_push_of_some _ e)
  refine ⟨l, vs.toArray, lo, hi, rfl, ⟨_, S.ok.inh _ _ hl, rfl, n, rfl⟩, by rw [List.size_toArray, sizeLine_eq]; omega, pl, pu, ?_⟩
  have e : slicePick vs.toArray lo hi none = (slicePick vs.toArray lo hi none).toList.toArray := by simp
  rw [e]
  have := next_push (s := { s₃ with heap := s₃.heap.push { cls := .type "slice", data := .fields #[vl, vu, .none] } }) (o := listO (slicePick vs.toArray lo hi none).toList 0) (Q := Q) S1 rfl (fun I' a s' l e1 e2 sm S' => hq _ e I' a s' l e1 e2 (Same.trans ⟨_, _, rfl⟩ sm) S')
  dsimp only at this
  rw [Heap.size_push] at this
  exact this
-- l[lo:hi:st]
theorem slice3E {value stx : PySem.Expr} {lower upper : Option PySem.Expr} {p pos : Pos}
    (h : wpAny (model prog w) A (eval value env) (fun o s₁ => wpAny (model prog w) A (evalPart lower env) (fun vl s₂ => wpAny (model prog w) A (evalPart upper env) (fun vu s₃ => wpAny (model prog w) A (eval stx env) (fun vst s₄ =>
      ∃ l lo hi st, o = .ref l ∧ IsPart vl lo ∧ IsPart vu hi ∧ IsPart vst st ∧ st ≠ some 0 ∧ WiL lo hi st Q s₄ l) E s₃) E s₂) E s₁) E s)
    (ht : ∀ o r, letTemporaryGo value o r = pure () := by intro _ _; rfl) :
    wpAny (model prog w) A (eval (.Subscript value (.Slice lower upper (some stx) p) pos) env) Q E s := by
  refine wpAny_Subscript_Slice_step (T := "list") list_getitem_lookup (wpAny_mono h (fun o s₁ h₁ => wpAny_Slice (wpAny_mono h₁ (fun vl s₂ h₂ => wpAny_mono h₂ (fun vu s₃ h₃ => wpAny_evalPart_some (wpAny_mono h₃ (fun vst s₄ h₄ => ?_) fun _ _ e => e)) fun _ _ e => e) fun _ _ e => e)) fun _ _ e => e) ht
  obtain ⟨l, lo, hi, st, rfl, pl, pu, ps, h0, P, X, h₀, I₀, I, L, m, mu, vs, n, S, hl, hz, hq⟩ := h₄
  have S1 := S.silent (h' := s₄.heap.push { cls := .type "slice", data := .fields #[vl, vu, vst] }) (fun b o e => Heap.get?_push_of_some _ e)
  have il : (s₄.heap.push { cls := .type "slice", data := .fields #[vl, vu, vst] }).IsList l vs.toArray := ⟨_, S1.ok.inh _ _ hl, rfl, n, rfl⟩
  refine ⟨il.typeIs, wpAny_getItem_list_slice il (Heap.IsSliceOf.new ..) pl pu ps h0 ?_ (by rw [List.size_toArray, sizeLine_eq]; omega)⟩
  have e : slicePick vs.toArray lo hi st = (slicePick vs.toArray lo hi st).toList.toArray := by simp
  rw [e]
  exact next_push (s := { s₄ with heap := s₄.heap.push { cls := .type "slice", data := .fields #[vl, vu, vst] } }) (o := listO (slicePick vs.toArray lo hi st).toList 0) (Q := Q) S1 rfl (fun I' a s' l e1 e2 sm S' => hq _ e I' a s' l e1 e2 (Same.trans ⟨_, _, rfl⟩ sm) S')
-- row[:5]
theorem five {value : PySem.Expr} {upper : PySem.Expr} {p pos : Pos}
    (h : wpAny (model prog w) A (eval value env) (fun o s₁ => wpAny (model prog w) A (eval upper env) (fun vu s₃ =>
      ∃ l v1 v2 v3 v4 v5 v6 n u, o = .ref l ∧ vu = .int 5 u ∧ s₃.heap.get? l = some (tupO [v1, v2, v3, v4, v5, v6] n) ∧ Wi Q s₃ (tupO [v1, v2, v3, v4, v5] 0)) E s₁) E s) :
    wpAny (model prog w) A (eval (.Subscript value (.Slice none (some upper) none p) pos) env) Q E s := by
  refine Subscript_ (wpAny_mono h (fun o s₁ h₁ => wpAny_Slice (wpAny_evalPart_none (wpAny_evalPart_some (wpAny_mono h₁ (fun vu s₃ h₃ => wpAny_evalPart_none ?_) fun _ _ e => e)))) fun _ _ e => e)
  obtain ⟨l, v1, v2, v3, v4, v5, v6, n, u, rfl, rfl, hl, P, X, h₀, I₀, I, L, m, mu, S, hq⟩ := h₃
  have S1 := S.silent (h' := s₃.heap.push { cls := .type "slice", data := .fields #[.none, .int 5 u, .none] }) (fun b o e => Heap.get?_push_of_some _ e)
  have il : IsTup (s₃.heap.push { cls := .type "slice", data := .fields #[.none, .int 5 u, .none] }) l #[v1, v2, v3, v4, v5, v6] := ⟨_, Heap.get?_push_of_some _ hl, rfl, n, rfl⟩
  refine tail_any (ops := [.ref s₃.heap.objs.size, .ref l]) il.typeIs slot_tuple_getitem.lookup (getItem_tup5 (Heap.get?_push_of_some _ hl) (Heap.IsSliceOf.new ..) ?_) (by with_unfolding_all rfl)
  exact next_push (s := { s₃ with heap := s₃.heap.push { cls := .type "slice", data := .fields #[.none, .int 5 u, .none] } }) (o := tupO [v1, v2, v3, v4, v5] 0) (Q := Q) S1 rfl (fun I' a s' l e1 e2 sm S' => hq I' a s' l e1 e2 (Same.trans ⟨_, _, rfl⟩ sm) S')
theorem st' {x : Str} {v : Value} {Q : Unit → Shared → Prop} (S : St P X h₀ I₀ I L m mu s.heap) (h : ∀ s', Same s s' → St P X h₀ I₀ I L (setM m x v) mu s'.heap → Q () s')
    (hk : env.scope.kind = .function := by rfl) (hl : env.kindOf x = some .local := by rfl) (hL : env.locals = L := by rfl) : wpAny (model prog w) A (storeName env x v) Q E s :=
  st S (fun h' tk S' => h _ ⟨_, _, rfl⟩ S') hk hl hL
-- the frame's cell gets its value, which stays
theorem stC' {x : Str} {c : Addr} {v₀ : Option Value} {v : Value} {Q : Unit → Shared → Prop} (S : St P X h₀ I₀ I L m ((c, cellO v₀) :: mu) s.heap) (hc : env.cells.lookup x = some c)
    (h : ∀ s' I', le I I' → I' c = some (cellO (some v)) → Same s s' → St P X h₀ I₀ I' L m mu s'.heap → Q () s')
    (hk : env.scope.kind = .function := by rfl) (hl : env.kindOf x = some .cell := by rfl) : wpAny (model prog w) A (storeName env x v) Q E s :=
  stCell S hc (fun h' S' => h { s with heap := h' } _ (le_put (S'.own _ (.head _)).2.1) (put_self _ _ _) ⟨_, _, rfl⟩ S'.freeze) hk hl
theorem int' {i : Int} {k : Nat} {pos : Pos} (h : ∀ t s', s'.heap = s.heap → Same s s' → Q (.int i t) s') : wpAny (model prog w) A (eval (.Constant (.int i) k pos) env) Q E s :=
  wpAny_Constant_int (h _ _ rfl ⟨_, _, rfl⟩)
end
section
variable {prog : Program} {w : World} {A : Around} {E : Value → Shared → Prop} {s : Shared} {env : Env} {I : Kn}
theorem post_none' {D C : Addr} {Q : Value → Shared → Prop} {I₁ : Kn} {m₁ : Str → Option Value} {mu₁ : List (Addr × Obj)} {o : Obj} {s₁ : Shared} (S : St w.params [93] s.heap I I₁ C m₁ ((D, o) :: mu₁) s₁.heap) (hs : Same s s₁)
    (h : ∀ s' I', le I₁ I' → I' D = some o → Same s s' → Grow s.heap I s'.heap I' → Q (.ref D) s') : compPost (model prog w) A E none Q (.ref D) C (.ok .next) s₁ :=
  post_none S hs fun h' tk g => h { s with heap := h', toks := tk } _ (le_put (S.own _ (.head _)).2.1) (put_self _ _ _) ⟨_, _, rfl⟩ g
theorem post_some' {P : Params} {X : List Addr} {h₀ : Heap} {I₀ : Kn} {L : Addr} {m : Str → Option Value} {mu : List (Addr × Obj)} {y : Str} {py : Pos} {D C : Addr} {Q : Value → Shared → Prop} {I₁ : Kn} {m₁ : Str → Option Value} {mu₁ : List (Addr × Obj)} {o : Obj} {s₁ : Shared}
    (S : St P X h₀ I₀ I L m mu s.heap) (S1 : St w.params [93] s.heap I I₁ C m₁ ((D, o) :: mu₁) s₁.heap) (hs : Same s s₁)
    (h : ∀ s' I', le I₁ I' → I' D = some o → Same s s' → St P X h₀ I₀ I' L (setM m y (.ref D)) mu s'.heap → Q .none s')
    (hk : env.scope.kind = .function := by rfl) (hl : env.kindOf y = some .local := by rfl) (hL : env.locals = L := by rfl) : compPost (model prog w) A E (some (assign (.Name y py) env)) Q (.ref D) C (.ok .next) s₁ :=
  post_some S S1 hs (fun h' tk S' => h { s with heap := h', toks := tk } _ (le_put (S1.own _ (.head _)).2.1) (put_self _ _ _) ⟨_, _, rfl⟩ S') hk hl hL
theorem Ends.use' {α : Type} {t : Sem α} {R : Kn → α → Prop} {Q : α → Shared → Prop} (x : Ends prog w A I t R s)
    (h : ∀ v I' s', Same s s' → Grow s.heap I s'.heap I' → R I' v → Q v s') : wpAny (model prog w) A t Q E s :=
  x.use fun v I' h' tk g r => h v I' { s with heap := h', toks := tk } ⟨_, _, rfl⟩ g r
theorem leave' {P : Params} {I' : Kn} {L : Addr} {m : Str → Option Value} {mu : List (Addr × Obj)} {R : Kn → Value → Prop} {s' : Shared} {v : Value} (S : St P [93] s.heap I I' L m mu s'.heap) (hs : Same s s') (r : R I' v) :
    ∃ I', GrowS s I s' I' ∧ R I' v := leave S hs r
-- a def's call, the state kept small
theorem enter' {fd : FuncData} {f : Addr} {o : Obj} {pos : List Value} {kw : List (Str × Value)} {binds : List (Str × Value)} {body : List Stmt} {R : Kn → Value → Prop} (mu : Addr → List (Addr × Obj))
    (k : Ok w.params I s.heap) (hr : A.depth < recursionLimit) (ho : I f = some o) (hdata : o.data = .func fd) (hcd : CodeI I fd.code fd.qualname) (hbody : fd.body = .stmts body) (hbind : bindArgs fd ⟨pos, kw⟩ = pure binds)
    (hl : ∀ x ∈ binds, fd.scope.names.lookup x.1 = some .local)
    (h : ∀ L s₁, Same s s₁ → St w.params [93] s.heap I I L (fun x => binds.reverse.lookup x) (mu L) s₁.heap →
      wpAny (model prog w) (A.deeper (envF fd f L))
        (execs body (envF fd f L))
        (fun fl s' => ∃ I', GrowS s I s' I' ∧ R I' (match fl with | .ret v => v | _ => .none)) (fun _ _ => False) s₁)
    (hmu : ∀ L, cellsM (L + 1) fd.scope.names [] = mu L := by intro _; rfl) (hco : fd.scope.isCoroutine = false := by rfl) (hgen : fd.scope.isGenerator = false := by rfl) (hk : fd.scope.kind = .function := by rfl) :
    Ends prog w A I (call (.ref f) pos kw) R s :=
  enter mu k hr ho hdata hcd hbody hbind hl (fun L h₁ tk _ S => h L { s with heap := h₁, toks := tk } ⟨_, _, rfl⟩ S) hmu hco hgen hk
end
end Mine

-- part LMath
set_option maxRecDepth 100000
namespace Mine
open PySem

/-! the order of rows -/
theorem colLt_asymm (i : Nat) (a b : Row) (h : colLt i a b = true) : colLt i b a = false := by
  unfold colLt at *
  split at h <;> simp only [decide_eq_true_eq, decide_eq_false_iff_not] at * <;> first | omega | exact List.lt_asymm h
theorem colLt_left (i : Nat) (a b c : Row) (h : colLt i a b = true) (h' : colLt i c b = false) : colLt i a c = true := by
  unfold colLt at *
  split at h <;> simp only [decide_eq_true_eq, decide_eq_false_iff_not] at * <;> first | omega | exact Decidable.byContradiction fun q => h' (List.lt_of_le_of_lt (List.not_lt.mp q) h)
theorem colLt_right (i : Nat) (a b c : Row) (h : colLt i b a = false) (h' : colLt i b c = true) : colLt i a c = true := by
  unfold colLt at *
  split at h <;> simp only [decide_eq_true_eq, decide_eq_false_iff_not] at * <;> first | omega | exact List.lt_of_le_of_lt (List.not_lt.mp h) h'
theorem cmpK_neg (ks : List (Nat × Int)) (a b : Row) : cmpK ks b a = - cmpK ks a b := by
  induction ks with
  | nil => rfl
  | cons k ks ih =>
    obtain ⟨i, d⟩ := k
    simp only [cmpK]
    cases h1 : colLt i a b with
    | true => simp only [colLt_asymm i a b h1, if_true, Bool.false_eq_true, if_false, Int.neg_neg]
    | false =>
      cases h2 : colLt i b a with
      | true => simp
      | false => simp [ih]
theorem cmpK_self (ks : List (Nat × Int)) (a : Row) : cmpK ks a a = 0 := by have := cmpK_neg ks a a; omega
theorem cmpK_trans (ks : List (Nat × Int)) (hd : ∀ k ∈ ks, k.2 ≠ 0) (a b c : Row) (h1 : cmpK ks a b ≤ 0) (h2 : cmpK ks b c ≤ 0) : cmpK ks a c ≤ 0 ∧ (cmpK ks a c = 0 → cmpK ks a b = 0 ∧ cmpK ks b c = 0) := by
  induction ks with
  | nil => exact ⟨Int.le_refl _, fun _ => ⟨rfl, rfl⟩⟩
  | cons k ks ih =>
    obtain ⟨i, d⟩ := k
    have hd0 : d ≠ 0 := hd (i, d) (.head _)
    have ih := ih (fun k hk => hd k (.tail _ hk))
    simp only [cmpK] at *
    have L := colLt_left i
    have R := colLt_right i
    have S := colLt_asymm i
    cases e1 : colLt i a b <;> cases e2 : colLt i b a <;> cases e3 : colLt i b c <;> cases e4 : colLt i c b <;>
      first
      | (exfalso; have := S a b e1; rw [e2] at this; exact Bool.noConfusion this)
      | (exfalso; have := S b c e3; rw [e4] at this; exact Bool.noConfusion this)
      | skip
    · have x1 : colLt i a c = false := by
        cases q : colLt i a c with
        | false => rfl
        | true => have := L a c b q e3; rw [e1] at this; cases this
      have x2 : colLt i c a = false := by
        cases q : colLt i c a with
        | false => rfl
        | true => have := L c a b q e2; rw [e4] at this; cases this
      simp only [e1, e2, e3, e4, x1, x2, Bool.false_eq_true, if_false, if_true] at *
      exact ih h1 h2
    · have x := L c b a e4 e1
      have y := S c a x
      simp only [e1, e2, e3, e4, x, y, Bool.false_eq_true, if_false, if_true] at *
      exact ⟨h2, fun z => absurd z hd0⟩
    · have x := R a b c e2 e3
      have y := S a c x
      simp only [e1, e2, e3, e4, x, y, Bool.false_eq_true, if_false, if_true] at *
      exact ⟨h2, fun z => by omega⟩
    · have x := R c b a e3 e2
      have y := S c a x
      simp only [e1, e2, e3, e4, x, y, Bool.false_eq_true, if_false, if_true] at *
      exact ⟨h1, fun z => absurd z hd0⟩
    · have x := L c b a e4 e1
      have y := S c a x
      simp only [e1, e2, e3, e4, x, y, Bool.false_eq_true, if_false, if_true] at *
      exact ⟨h1, fun z => absurd z hd0⟩
    · simp only [e1, e2, e3, e4, Bool.false_eq_true, if_false, if_true] at h1 h2
      exfalso; omega
    · have x := L a b c e1 e4
      have y := S a c x
      simp only [e1, e2, e3, e4, x, y, Bool.false_eq_true, if_false, if_true] at *
      exact ⟨h1, fun z => by omega⟩
    · simp only [e1, e2, e3, e4, Bool.false_eq_true, if_false, if_true] at h1 h2
      exfalso; omega
    · have x := L a b c e1 e4
      have y := S a c x
      simp only [e1, e2, e3, e4, x, y, Bool.false_eq_true, if_false, if_true] at *
      exact ⟨h1, fun z => by omega⟩
-- the keys turned
noncomputable def turn (ks : List (Nat × Int)) : List (Nat × Int) := ks.map fun k => (k.1, -k.2)
theorem cmpK_turn (ks : List (Nat × Int)) (a b : Row) : cmpK (turn ks) a b = - cmpK ks a b := by
  induction ks with
  | nil => rfl
  | cons k ks ih =>
    obtain ⟨i, d⟩ := k
    show cmpK ((i, -d) :: turn ks) a b = _
    simp only [cmpK]
    cases colLt i a b <;> cases colLt i b a <;> simp [ih]

/-! lists in one order are one list -/
theorem perm_unique {α : Type} (R : α → α → Prop) (as : ∀ a b, R a b → ¬ R b a) : ∀ (l r : List α), l.Perm r → l.Pairwise R → r.Pairwise R → l = r
  | [], r, p, _, _ => by rw [List.nil_perm.mp p]
  | a :: l, [], p, _, _ => absurd p (by simp)
  | a :: l, b :: r, p, h1, h2 => by
    obtain ⟨g1, g2⟩ := List.pairwise_cons.mp h1
    obtain ⟨k1, k2⟩ := List.pairwise_cons.mp h2
    have hab : a = b := by
      have m1 : a ∈ b :: r := p.mem_iff.mp (.head _)
      have m2 : b ∈ a :: l := p.mem_iff.mpr (.head _)
      rcases List.mem_cons.mp m1 with e | m1
      · exact e
      · rcases List.mem_cons.mp m2 with e | m2
        · exact e.symm
        · exact absurd (g1 b m2) (as _ _ (k1 a m1))
    subst hab
    rw [perm_unique R as l r (List.Perm.cons_inv p) g2 k2]

-- the order by the keys, rows alike by the places p
def bef (ks : List (Nat × Int)) (p : Row → Nat) (a b : Row) : Prop := cmpK ks a b < 0 ∨ (cmpK ks a b = 0 ∧ p a < p b)
theorem bef_asymm (ks : List (Nat × Int)) (p : Row → Nat) (a b : Row) (h : bef ks p a b) : ¬ bef ks p b a := by
  unfold bef at *
  rw [cmpK_neg ks a b]
  omega
end Mine

-- part LMathB
set_option maxRecDepth 100000
namespace Mine
open PySem
-- one call of the script
structure Cl where
  name : Str
  pr : Int
  own : Int
  whole : Int
  who : Int
noncomputable def mineOf (cs : List Cl) (x : Str) : List Cl := cs.filter fun c => c.name == x
noncomputable def calOf (m : List Cl) : Int → Option Int := fun k => if (m.filter fun c => c.who == k).length = 0 then none else some ((m.filter fun c => c.who == k).length : Int)
noncomputable def rowOf (cs : List Cl) (x : Str) : Row :=
  { cc := ((mineOf cs x).map (·.pr)).sum, nc := (mineOf cs x).length, tt := ((mineOf cs x).map (·.own)).sum, ct := ((mineOf cs x).map (·.whole)).sum, cal := calOf (mineOf cs x), name := x }
noncomputable def zeroRow (x : Str) : Row := ⟨0, 0, 0, 0, fun _ => none, x⟩
noncomputable def addRow (r : Row) (c : Cl) : Row := { cc := c.pr + r.cc, nc := 1 + r.nc, tt := c.own + r.tt, ct := c.whole + r.ct, cal := fun k => if k = c.who then some ((r.cal k).getD 0 + 1) else r.cal k, name := r.name }
theorem mine_snoc (cs : List Cl) (c : Cl) (x : Str) : mineOf (cs ++ [c]) x = if c.name == x then mineOf cs x ++ [c] else mineOf cs x := by
  unfold mineOf
  rw [List.filter_append]
  cases h : c.name == x <;> simp [h]
theorem rowOf_other {cs : List Cl} {c : Cl} {x : Str} (h : c.name ≠ x) : rowOf (cs ++ [c]) x = rowOf cs x := by
  unfold rowOf
  rw [mine_snoc, if_neg (by simpa using h)]
theorem rowOf_none {cs : List Cl} {x : Str} (h : ∀ c ∈ cs, c.name ≠ x) : rowOf cs x = zeroRow x := by
  have : mineOf cs x = [] := by
    unfold mineOf
    rw [List.filter_eq_nil_iff]
    intro c hc; simpa using h c hc
  unfold rowOf zeroRow
  rw [this]
  have : calOf [] = fun _ => none := by funext k; simp [calOf]
  rw [this]; rfl
theorem rowOf_add (cs : List Cl) (c : Cl) : addRow (rowOf cs c.name) c = rowOf (cs ++ [c]) c.name := by
  unfold addRow rowOf
  rw [mine_snoc, if_pos (by simp)]
  simp only [List.map_append, List.sum_append, List.length_append, List.map_cons, List.map_nil, List.sum_cons, List.sum_nil, List.length_cons, List.length_nil]
  congr 1
  · omega
  · omega
  · omega
  · omega
  · funext k
    unfold calOf
    rw [List.filter_append]
    by_cases h : k = c.who
    · subst h
      simp only [if_true, List.length_append]
      generalize (List.filter (fun c_1 => c_1.who == c.who) (mineOf cs c.name)).length = n
      simp only [List.filter_cons, beq_self_eq_true, if_true, List.filter_nil, List.length_cons, List.length_nil]
      by_cases hn : n = 0
      · subst hn; rfl
      · simp [hn]
    · have : (c.who == k) = false := by simpa using fun e => h e.symm
      simp [h, this]

/-! the names by their last call -/
noncomputable def scan (acc : List Str) : List Cl → List Str
  | [] => acc
  | c :: r => scan (if acc.contains c.name then acc else acc ++ [c.name]) r
noncomputable def dueNames (cs : List Cl) : List Str := (scan [] cs.reverse).reverse
theorem scan_cons (x : Str) : ∀ (r : List Cl) (acc : List Str), scan (x :: acc.filter fun y => !(y == x)) r = x :: (scan acc r).filter fun y => !(y == x)
  | [], _ => rfl
  | c :: r, acc => by
    unfold scan
    rw [← scan_cons x r]
    congr 1
    by_cases h : c.name = x
    · subst h
      simp only [List.contains_cons, beq_self_eq_true, Bool.true_or, if_true]
      split
      · rfl
      · simp
    · have h' : (c.name == x) = false := by simpa using h
      have : (x :: acc.filter fun y => !(y == x)).contains c.name = acc.contains c.name := by
        rw [List.contains_cons, h', Bool.false_or]
        rw [Bool.eq_iff_iff]
        simp [h]
      rw [this]
      split
      · rfl
      · simp [h']
theorem due_snoc (cs : List Cl) (c : Cl) : dueNames (cs ++ [c]) = (dueNames cs).filter (fun y => !(y == c.name)) ++ [c.name] := by
  unfold dueNames
  rw [List.reverse_append]
  show (scan (if ([] : List Str).contains c.name then [] else [] ++ [c.name]) cs.reverse).reverse = _
  have := scan_cons c.name cs.reverse []
  simp only [List.filter_nil] at this
  simp only [List.contains_nil, Bool.false_eq_true, if_false, List.nil_append, this, List.reverse_cons, List.filter_reverse]
theorem snoc_ind {α : Type} {P : List α → Prop} (h0 : P []) (h1 : ∀ l a, P l → P (l ++ [a])) (l : List α) : P l := by
  rw [← List.reverse_reverse l]
  induction l.reverse with
  | nil => exact h0
  | cons a t ih => rw [List.reverse_cons]; exact h1 _ _ ih
theorem due_mem (cs : List Cl) (x : Str) : x ∈ dueNames cs ↔ ∃ c ∈ cs, c.name = x := by
  induction cs using snoc_ind with
  | h0 => simp [dueNames, scan]
  | h1 cs c ih =>
    rw [due_snoc]
    simp only [List.mem_append, List.mem_filter, ih, List.mem_singleton]
    constructor
    · rintro (⟨⟨d, hd, e⟩, _⟩ | e)
      · exact ⟨d, .inl hd, e⟩
      · exact ⟨c, .inr rfl, e.symm⟩
    · rintro ⟨d, hd | hd, e⟩
      · by_cases q : x = c.name
        · exact .inr q
        · exact .inl ⟨⟨d, hd, e⟩, by simpa using q⟩
      · subst hd; exact .inr e.symm
noncomputable def dueRows (cs : List Cl) : List Row := (dueNames cs).map (rowOf cs)

/-! one step -/
noncomputable def oldRow (rows : List Row) (x : Str) : Row := ((rows.filter fun r => r.name == x) ++ [zeroRow x]).headD (zeroRow x)
noncomputable def placeOf (ks : List (Nat × Int)) (rest : List Row) (new : Row) : Nat := (rest.filter fun r => decide (cmpK ks r new ≤ 0)).length
noncomputable def stepRows (ks : List (Nat × Int)) (rows : List Row) (c : Cl) : List Row :=
  let rest := rows.filter fun r => !(r.name == c.name)
  let new := addRow (oldRow rows c.name) c
  rest.take (placeOf ks rest new) ++ [new] ++ rest.drop (placeOf ks rest new)
structure Inv (ks : List (Nat × Int)) (cs : List Cl) (rows : List Row) (pos : Str → Nat) : Prop where
  lt : ∀ y, pos y ≤ cs.length
  lt' : ∀ y ∈ dueNames cs, pos y < cs.length
  due : (dueNames cs).Pairwise fun x y => pos x < pos y
  perm : (rows.map (·.name)).Perm (dueNames cs)
  ord : rows.Pairwise (bef ks fun a => pos a.name)
  eq : ∀ a ∈ rows, a = rowOf cs a.name
theorem take_filter {α : Type} (p : α → Bool) : ∀ (l : List α), l.Pairwise (fun a b => p b = true → p a = true) → l.take (l.filter p).length = l.filter p ∧ l.drop (l.filter p).length = l.filter (fun a => !p a)
  | [], _ => ⟨rfl, rfl⟩
  | a :: l, h => by
    obtain ⟨h1, h2⟩ := List.pairwise_cons.mp h
    obtain ⟨i1, i2⟩ := take_filter p l h2
    cases q : p a with
    | true => simp [q, i1, i2]
    | false =>
      have : l.filter p = [] := by
        rw [List.filter_eq_nil_iff]
        intro b hb e
        have := h1 b hb e
        rw [q] at this; cases this
      have e2 : l.filter (fun a => !p a) = l := by
        rw [List.filter_eq_self]
        intro b hb
        cases q2 : p b with
        | false => rfl
        | true => have := h1 b hb q2; rw [q] at this; cases this
      simp [q, this, e2]
end Mine

-- part LMathC
set_option maxRecDepth 100000
namespace Mine
open PySem
theorem inv_start (ks : List (Nat × Int)) : Inv ks [] [] (fun _ => 0) := ⟨fun _ => Nat.le_refl _, fun y hy => by simp [dueNames, scan] at hy, List.Pairwise.nil, List.Perm.refl _, List.Pairwise.nil, fun _ h => nomatch h⟩
theorem old_eq {ks : List (Nat × Int)} {cs : List Cl} {rows : List Row} {pos : Str → Nat} (I : Inv ks cs rows pos) (x : Str) : oldRow rows x = rowOf cs x := by
  unfold oldRow
  cases q : rows.filter fun r => r.name == x with
  | nil =>
    show zeroRow x = _
    refine (rowOf_none fun c hc e => ?_).symm
    have : x ∈ rows.map (·.name) := I.perm.mem_iff.mpr ((due_mem cs x).mpr ⟨c, hc, e⟩)
    obtain ⟨r, hr, e'⟩ := List.mem_map.mp this
    have : r ∈ rows.filter fun r => r.name == x := List.mem_filter.mpr ⟨hr, by simpa using e'⟩
    rw [q] at this; cases this
  | cons r t =>
    show r = _
    have : r ∈ rows.filter fun r => r.name == x := by rw [q]; exact .head _
    obtain ⟨hr, e⟩ := List.mem_filter.mp this
    have e : r.name = x := by simpa using e
    rw [I.eq r hr, e]
theorem names_filter (x : Str) (l : List Row) : (l.filter fun r => !(r.name == x)).map (·.name) = (l.map (·.name)).filter fun y => !(y == x) := by
  induction l with
  | nil => rfl
  | cons a l ih => simp only [List.filter_cons, List.map_cons]; cases h : !(a.name == x) <;> simp [ih]
theorem inv_step {ks : List (Nat × Int)} (hd : ∀ k ∈ ks, k.2 ≠ 0) {cs : List Cl} {rows : List Row} {pos : Str → Nat} (I : Inv ks cs rows pos) (c : Cl) :
    Inv ks (cs ++ [c]) (stepRows ks rows c) (fun y => if y = c.name then cs.length else pos y) := by
  have hnew : addRow (oldRow rows c.name) c = rowOf (cs ++ [c]) c.name := by rw [old_eq I, rowOf_add]
  have hr : ∀ a, a ∈ (rows.filter fun r => !(r.name == c.name)) → a ∈ rows ∧ a.name ≠ c.name := fun a ha => by
    obtain ⟨h1, h2⟩ := List.mem_filter.mp ha
    exact ⟨h1, by simpa using h2⟩
  have hpos : ∀ a ∈ rows, pos a.name < cs.length := fun a ha => I.lt' _ (I.perm.mem_iff.mp (List.mem_map.mpr ⟨a, ha, rfl⟩))
  have pw : (rows.filter fun r => !(r.name == c.name)).Pairwise (bef ks fun a => pos a.name) := I.ord.sublist List.filter_sublist
  have mono : (rows.filter fun r => !(r.name == c.name)).Pairwise (fun a b => decide (cmpK ks b (addRow (oldRow rows c.name) c) ≤ 0) = true → decide (cmpK ks a (addRow (oldRow rows c.name) c) ≤ 0) = true) := by
    refine pw.imp fun {a b} h hb => ?_
    rw [decide_eq_true_eq] at *
    have : cmpK ks a b ≤ 0 := by rcases h with h | h <;> omega
    exact (cmpK_trans ks hd a b _ this hb).1
  obtain ⟨e1, e2⟩ := take_filter _ _ mono
  have hst : stepRows ks rows c = (rows.filter fun r => !(r.name == c.name)).filter (fun r => decide (cmpK ks r (addRow (oldRow rows c.name) c) ≤ 0)) ++ [addRow (oldRow rows c.name) c] ++ (rows.filter fun r => !(r.name == c.name)).filter (fun r => !decide (cmpK ks r (addRow (oldRow rows c.name) c) ≤ 0)) := by
    unfold stepRows placeOf
    dsimp only
    rw [e1, e2]
  have nn : (addRow (oldRow rows c.name) c).name = c.name := by rw [hnew]; rfl
  refine ⟨fun y => ?_, fun y hy => ?_, ?_, ?_, ?_, ?_⟩
  · have := I.lt y
    rw [List.length_append]
    show (if y = c.name then cs.length else pos y) ≤ cs.length + 1
    split <;> omega
  · rw [List.length_append]
    show (if y = c.name then cs.length else pos y) < cs.length + 1
    split
    · omega
    · rename_i h
      rw [due_snoc] at hy
      rcases List.mem_append.mp hy with hy | hy
      · have := I.lt' y (List.mem_filter.mp hy).1; omega
      · exact absurd (List.mem_singleton.mp hy) h
  · rw [due_snoc]
    refine List.pairwise_append.mpr ⟨?_, List.pairwise_singleton _ _, fun a ha b hb => ?_⟩
    · refine (I.due.sublist List.filter_sublist).imp_of_mem fun {a b} ha hb h => ?_
      have na : a ≠ c.name := by have := (List.mem_filter.mp ha).2; simpa using this
      have nb : b ≠ c.name := by have := (List.mem_filter.mp hb).2; simpa using this
      simp only [na, nb, if_false]; exact h
    · have na : a ≠ c.name := by have := (List.mem_filter.mp ha).2; simpa using this
      rw [List.mem_singleton.mp hb]
      simp only [na, if_false, if_true]
      exact I.lt' a (List.mem_filter.mp ha).1
  · rw [hst, due_snoc, List.map_append, List.map_append, List.map_cons, List.map_nil, nn]
    have p1 : ((rows.filter fun r => !(r.name == c.name)).map (·.name)).Perm ((dueNames cs).filter fun y => !(y == c.name)) := by
      rw [names_filter]; exact I.perm.filter _
    have p2 := (List.filter_append_perm (fun r => decide (cmpK ks r (addRow (oldRow rows c.name) c) ≤ 0)) (rows.filter fun r => !(r.name == c.name))).map (·.name)
    rw [List.map_append] at p2
    refine List.Perm.trans ?_ ((p2.trans p1).append_right [c.name])
    rw [List.append_assoc, List.append_assoc]
    exact List.Perm.append_left _ List.perm_append_comm
  · rw [hst]
    have keep : ∀ a b, a.name ≠ c.name → b.name ≠ c.name → bef ks (fun a => pos a.name) a b → bef ks (fun a => if a.name = c.name then cs.length else pos a.name) a b := by
      intro a b na nb h
      unfold bef at *
      simp only [na, nb, if_false]
      exact h
    refine List.pairwise_append.mpr ⟨List.pairwise_append.mpr ⟨?_, List.pairwise_singleton _ _, fun a ha b hb => ?_⟩, ?_, fun a ha b hb => ?_⟩
    · refine (pw.sublist List.filter_sublist).imp_of_mem fun {a b} ha hb h => ?_
      exact keep a b (hr a (List.mem_filter.mp ha).1).2 (hr b (List.mem_filter.mp hb).1).2 h
    · rw [List.mem_singleton.mp hb]
      obtain ⟨h1, h2⟩ := List.mem_filter.mp ha
      rw [decide_eq_true_eq] at h2
      unfold bef
      have na := (hr a h1).2
      simp only [na, nn, if_false, if_true]
      have := hpos a (hr a h1).1
      omega
    · refine (pw.sublist List.filter_sublist).imp_of_mem fun {a b} ha hb h => ?_
      exact keep a b (hr a (List.mem_filter.mp ha).1).2 (hr b (List.mem_filter.mp hb).1).2 h
    · obtain ⟨h1, h2⟩ := List.mem_filter.mp hb
      simp only [Bool.not_eq_true', decide_eq_false_iff_not, Int.not_le] at h2
      have nb := (hr b h1).2
      rcases List.mem_append.mp ha with ha | ha
      · obtain ⟨g1, g2⟩ := List.mem_filter.mp ha
        rw [decide_eq_true_eq] at g2
        refine .inl ?_
        have x1 := cmpK_neg ks b (addRow (oldRow rows c.name) c)
        have x2 := cmpK_trans ks hd a _ b g2 (by omega)
        have := x2.1
        have := x2.2
        omega
      · rw [List.mem_singleton.mp ha]
        refine .inl ?_
        have x1 := cmpK_neg ks b (addRow (oldRow rows c.name) c)
        omega
  · intro a ha
    rw [hst] at ha
    have rest : ∀ a, a ∈ (rows.filter fun r => !(r.name == c.name)) → a = rowOf (cs ++ [c]) a.name := fun a ha => by
      obtain ⟨h1, h2⟩ := hr a ha
      rw [rowOf_other (Ne.symm h2)]
      exact I.eq a h1
    rcases List.mem_append.mp ha with ha | ha
    · rcases List.mem_append.mp ha with ha | ha
      · exact rest a (List.mem_filter.mp ha).1
      · rw [List.mem_singleton.mp ha, nn]; exact hnew
    · exact rest a (List.mem_filter.mp ha).1

/-! orders -/
def Ordered (ks : List (Nat × Int)) (l q : List Row) : Prop := q.Perm l ∧ ∀ p : Row → Nat, l.Pairwise (fun a b => p a < p b) → q.Pairwise (bef ks p)
def SortStep (k : Nat × Int) (l q : List Row) : Prop := q.Perm l ∧ ∀ B : Row → Row → Prop, l.Pairwise B → q.Pairwise (fun a b => cmpK [k] a b < 0 ∨ (cmpK [k] a b = 0 ∧ B a b))
theorem ordered_nil (l : List Row) : Ordered [] l l := ⟨List.Perm.refl _, fun p h => h.imp fun {a b} h => .inr ⟨rfl, h⟩⟩
theorem cmpK_head (k : Nat × Int) (ks : List (Nat × Int)) (hk : k.2 ≠ 0) (a b : Row) : (cmpK [k] a b < 0 → cmpK (k :: ks) a b < 0) ∧ (cmpK [k] a b = 0 → cmpK (k :: ks) a b = cmpK ks a b) := by
  obtain ⟨i, d⟩ := k
  simp only [cmpK]
  cases colLt i a b <;> cases colLt i b a <;> simp at * <;> omega
theorem ordered_cons {k : Nat × Int} {ks : List (Nat × Int)} {l q r : List Row} (hk : k.2 ≠ 0) (h : Ordered ks l q) (s : SortStep k q r) : Ordered (k :: ks) l r :=
  ⟨s.1.trans h.1, fun p hp => (s.2 _ (h.2 p hp)).imp fun {a b} z => by
    obtain ⟨h1, h2⟩ := cmpK_head k ks hk a b
    rcases z with z | ⟨z, y⟩
    · exact .inl (h1 z)
    · unfold bef at *
      rw [h2 z]
      exact y⟩
theorem rows_due {ks : List (Nat × Int)} {cs : List Cl} {rows : List Row} {pos : Str → Nat} (I : Inv ks cs rows pos) : rows.Perm (dueRows cs) := by
  have : rows = (rows.map (·.name)).map (rowOf cs) := by
    rw [List.map_map]
    have : ∀ l : List Row, (∀ a ∈ l, a = rowOf cs a.name) → l = l.map ((rowOf cs) ∘ fun x => x.name) := by
      intro l
      induction l with
      | nil => intro _; rfl
      | cons a l ih => intro h; rw [List.map_cons, ← ih fun b hb => h b (.tail _ hb)]; congr 1; exact h a (.head _)
    exact this rows I.eq
  rw [this]
  exact I.perm.map _
-- what is laid in call by call is what is due
theorem told_due {ks : List (Nat × Int)} {cs : List Cl} {rows q : List Row} {pos : Str → Nat} (I : Inv ks cs rows pos) (o : Ordered ks (dueRows cs) q) : rows = q := by
  refine perm_unique (bef ks fun a => pos a.name) (bef_asymm ks _) _ _ ((rows_due I).trans o.1.symm) I.ord (o.2 _ ?_)
  unfold dueRows
  exact List.pairwise_map.mpr (I.due.imp fun {a b} h => h)
theorem pos_of : ∀ (l : List Row), (l.map (·.name)).Nodup → ∃ p : Row → Nat, l.Pairwise fun a b => p a < p b
  | [], _ => ⟨fun _ => 0, List.Pairwise.nil⟩
  | a :: l, h => by
    rw [List.map_cons, List.nodup_cons] at h
    obtain ⟨p, hp⟩ := pos_of l h.2
    have ne : ∀ b ∈ l, b.name ≠ a.name := fun b hb e => h.1 (List.mem_map.mpr ⟨b, hb, e⟩)
    refine ⟨fun x => if x.name = a.name then 0 else p x + 1, List.pairwise_cons.mpr ⟨fun b hb => ?_, hp.imp_of_mem fun {x y} hx hy h => ?_⟩⟩
    · simp only [if_true, ne b hb, if_false]; omega
    · simp only [ne x hx, ne y hy, if_false]; omega
theorem names_nodup {ks : List (Nat × Int)} {cs : List Cl} {rows : List Row} {pos : Str → Nat} (I : Inv ks cs rows pos) : (rows.map (·.name)).Nodup :=
  I.perm.nodup_iff.mpr (I.due.imp fun {a b} h e => by subst e; omega)
-- the rows once more, turned round
theorem turned_eq {ks : List (Nat × Int)} {cs : List Cl} {rows q r : List Row} {pos : Str → Nat} (I : Inv ks cs rows pos) (o1 : q.Perm rows ∧ ∀ B : Row → Row → Prop, rows.Pairwise B → q.Pairwise (fun a b => cmpK ks b a < 0 ∨ (cmpK ks b a = 0 ∧ B a b))) (o2 : Ordered (turn ks) rows r) : q = r := by
  obtain ⟨p, hp⟩ := pos_of rows (names_nodup I)
  refine perm_unique (bef (turn ks) p) (bef_asymm _ _) _ _ (o1.1.trans o2.1.symm) ((o1.2 _ hp).imp fun {a b} h => ?_) (o2.2 p hp)
  unfold bef
  rw [cmpK_turn]
  have := cmpK_neg ks a b
  omega
end Mine

-- part LNext
set_option maxRecDepth 100000
set_option maxHeartbeats 0
set_option pp.deepTerms false
set_option pp.maxSteps 2500
namespace Mine
open PySem PySem.W PySem.W.X PyProof.Rows PySem.Calls
-- statement i of the def at a, if there is one
noncomputable def stO (P : Params) (a : Addr) (i : Nat) : Option Stmt := (((fdOfO ((KK P).lookup a)).map fun fd => stmtsOf fd.body).getD [])[i]?
noncomputable def nQual : Str := "_law_step.<locals>._law_next"
inductive isNext (w : World) (I : Kn) (nx C : Addr) : Prop
  | mk (st : Stmt) (cell : Addr) (doc pm : Value) (c' : Addr) (ctv : Value) (h1 : stO w.params 91 0 = some st) (h2 : I nx = some (fnMade "_law_next" nQual (argsOf st) (bodyOf st) (scopeOf st) [("key", cell)] doc pm c' ctv)) (h3 : CodeI I (.ref c') nQual) (h4 : I cell = some (cellO (some (.ref C)))) : isNext w I nx C
theorem isNext.mono {w : World} {I J : Kn} {nx C : Addr} (h : isNext w I nx C) (l : le I J) : isNext w J nx C := by
  obtain ⟨st, cell, doc, pm, c', ctv, h1, h2, ⟨c, o, vs, t, e1, e2, e3⟩, h4⟩ := h
  exact ⟨st, cell, doc, pm, c', ctv, h1, l _ _ h2, ⟨c, o, vs, t, e1, l _ _ e2, e3⟩, l _ _ h4⟩
-- what _law_call gives
inductive isCall (prog : Program) (w : World) (I : Kn) (v : Value) (c : Cl) : Prop
  | mk (a : Addr) (n : Nat) (t : Tok) (fa : Addr) (fn : Nat) (t0 t1 t2 t3 : Tok) (sd : Addr) (os : Obj) (t4 : Tok) (e : v = .ref a) (h1 : I a = some (tupO [.str c.name t, .ref fa] n)) (h2 : I fa = some (tupO [.int c.pr t0, .int 1 t1, .int c.own t2, .int c.whole t3, .ref sd] fn)) (h3 : I sd = some os) (h4 : CalO prog w os [(c.who, .int 1 t4)]) : isCall prog w I v c
theorem isCall.mono {prog : Program} {w : World} {I J : Kn} {v : Value} {c : Cl} (h : isCall prog w I v c) (l : le I J) : isCall prog w J v c := by
  obtain ⟨a, n, t, fa, fn, t0, t1, t2, t3, sd, os, t4, e, h1, h2, h3, h4⟩ := h
  exact ⟨a, n, t, fa, fn, t0, t1, t2, t3, sd, os, t4, e, l _ _ h1, l _ _ h2, l _ _ h3, h4⟩
inductive isState (prog : Program) (w : World) (I : Kn) (v : Value) (rows : List Row) (told : List (List Row)) : Prop
  | mk (sa : Addr) (n : Nat) (R T : Value) (e : v = .ref sa) (h1 : I sa = some (tupO [R, T] n)) (h2 : isRows prog w I R rows) (h3 : isLst (isRows prog w) I T told) : isState prog w I v rows told
section
variable {prog : Program} {w : World} {A : Around} {E : Value → Shared → Prop} {s : Shared} {I : Kn}
theorem obj65 (P : Params) : ∃ c d fd sl, (KK P).lookup 65 = some ⟨c, d, .func fd, sl⟩ := ⟨_, _, _, _, by rfl⟩
theorem nextW {nx C : Addr} {keys : List (Nat × Int)} {sv cv : Value} {rows : List Row} {told : List (List Row)} {c : Cl} (k : Ok w.params I s.heap) (r : Room A 60) (hnx : isNext w I nx C) (hK : isKey' w I C keys) (hk : ∀ k ∈ keys, KeyOk k)
    (hst : isState prog w I sv rows told) (hrl : rows.length ≤ 100) (htl : told.length ≤ 100) (hcal : ∀ r ∈ rows, CalIn r.cal) (hc : isCall prog w I cv c) :
    Ends prog w A I (call (.ref nx) [sv, cv]) (fun I' v => isState prog w I' v (stepRows keys rows c) (told ++ [stepRows keys rows c])) s := by
  obtain ⟨st, cell, doc, pm, c', ctv, est, hf, hcd, hcell⟩ := hnx
  have lit := (rfl : stO w.params 91 0 = some _)
  rw [lit] at est
  cases est
  obtain ⟨sa, n, R, T, rfl, hsa, ⟨Ra, Rn, Rvs, rfl, hRa, hRv⟩, ⟨Ta, Tn, Tvs, rfl, hTa, hTv⟩⟩ := hst
  obtain ⟨ca, cn, ct, fa, fn, t0, t1, t2, t3, sd, os, t4, rfl, hca, hfa, hsd, hos⟩ := hc
  dsimp only [argsOf, bodyOf, scopeOf] at hf
  have rmono : ∀ (I J : Kn) (v : Value) (y : Row), isRow prog w I v y → le I J → isRow prog w J v y := fun _ _ _ _ h l => h.mono l
  have hRl : Rvs.length ≤ 100 := by rw [hRv.length]; exact hrl
  refine enter' (fd := _) (binds := [("state", .ref sa), ("call", .ref ca)]) (fun L => [(L + 2, cellO none), (L + 1, cellO none)]) k r.lim hf rfl hcd rfl (by rfl) (locs (by rfl)) (fun L s1 hs1 S => ?_)
  refine genQ fun Q0 hQ0 => ?_
  refine execs_consN fun Q1 hQ1 => (wpAny_Assign_Name (Subscript_ (ld S (v := .ref ca) (by rfl) (int' fun _ s2 e2 hs2 => ?_))))
  rw [← e2] at S
  refine item_tupleT ⟨_, S.ok.inh _ _ hca, rfl, _, rfl⟩ (by decide) (by decide) (by rfl) (by rfl) ?_
  refine stC' S.swap (by rfl) fun s3 I3 le3 hname hs3 S3 => ?_
  refine hQ1 _ ?_
  have hS3 := (hs1.trans hs2).trans hs3
  clear hs1 hs2 hs3 S e2
  -- old
  refine execs_consN fun Q2 hQ2 => (wpAny_Assign_Name (wpAny_BinOp (compN (cl := [("name", L + 1)]) (Subscript_ (ld S3 (v := .ref sa) (by rfl) (int' fun _ s4 e4 hs4 => ?_))) (by rfl) (by rfl) (by decide) (fun _ => by rfl))))
  rw [← e4] at S3
  refine item_tupleT ⟨_, S3.ok.inh _ _ (le3 _ _ hsa), rfl, _, rfl⟩ (by decide) (by decide) (by rfl) (by rfl) ?_
  have hRv3 : All2 (isRow prog w I3) Rvs rows := hRv.imp fun _ _ z => z.mono le3
  refine comp_filter (R := isRow prog w) (fun r => r.name == c.name) rmono S3.ok r.hd (le3 _ _ hRa) hRv3 (by omega) ?_ ?_ (by decide) (by rfl) (by rfl) (by decide)
  · intro v y I₁ C m₁ mu₁ s₁ hy hr hle hm Sc hs
    obtain ⟨ra, rn, u0, u1, u2, u3, d, u5, rfl, hra, hcd⟩ := hr
    exact wpAny_isTrue_Compare1 (Subscript_ (ld Sc (v := .ref ra) hm (wpAny_Constant_int (item_tupleT ⟨_, Sc.ok.inh _ _ hra, rfl, _, rfl⟩ (by decide) (by decide) (by rfl) (by rfl) (ldCell (by rfl) (Sc.ok.inh _ _ (hle _ _ hname)) (eq_str (wpAny_truthy_bool ⟨rfl, I₁, hs.toks, le.refl _, Sc⟩)))))))
  · intro D C' I₁ m₁ ys n mu₁ s₁ hle hys Sc hs
    refine post_none' Sc hs fun s5 I4 l14 hD hs5 g => ?_
    have S4 := S3.grow g
    have le4 := g.le
    have hys4 : All2 (isRow prog w I4) ys (rows.filter fun r => r.name == c.name) := hys.imp fun _ _ z => z.mono l14
    refine listE ?_
    refine spliced_more ?_
    refine tupE ?_
    refine spliced_more ?_
    refine int' fun t0' s6 e6 hs6 => ?_
    refine spliced_more ?_
    refine int' fun t1' s7 e7 hs7 => ?_
    refine spliced_more ?_
    refine int' fun t2' s8 e8 hs8 => ?_
    refine spliced_more ?_
    refine int' fun t3' s9 e9 hs9 => ?_
    rw [← e6, ← e7, ← e8, ← e9] at S4
    have hS9 := ((((hS3.trans hs4).trans hs5).trans hs6).trans ((hs7.trans hs8).trans hs9))
    clear hs4 hs5 hs6 hs7 hs8 hs9 e6 e7 e8 e9 S3 e4 hS3
    refine spliced_more ?_
    refine dictE S4 fun I5 d s10 le5 hd _ hs10 S5 => ?_
    refine spliced_more ?_
    refine ldCell (by rfl) (S5.ok.inh _ _ (le5 _ _ (le4 _ _ hname))) ?_
    refine spliced_none ⟨by show 6 ≤ 100; decide, wi S5 fun I6 z s11 le6 hz _ hs11 S6 => ?_⟩
    refine spliced_none ⟨by show 1 ≤ 100; decide, wi S6 fun I7 zl s12 le7 hzl _ hs12 S7 => ?_⟩
    have l47 : le I4 I7 := le5.trans (le6.trans le7)
    refine addL S7 (l47 _ _ hD) hzl (by have := List.length_filter_le (fun r : Row => r.name == c.name) rows; rw [← hys.length] at this; show ys.length + 1 ≤ 1000; omega) fun I8 old s13 le8 hold _ hs13 S8 => ?_
    refine st' S8 fun s14 hs14 S9 => ?_
    refine hQ2 _ ?_
    have l38 : le I3 I8 := le4.trans (l47.trans le8)
    refine execs_consN fun Q3 hQ3 => ?_
    refine compA (cl := [("name", L + 1)]) (Subscript_ (ld S9 (v := .ref sa) (by rfl) (int' fun _ s15 e15 hs15 => ?_))) (by rfl) (by rfl) (by rfl) (by decide) (fun _ => by rfl)
    rw [← e15] at S9
    refine item_tupleT ⟨_, S9.ok.inh _ _ (l38 _ _ (le3 _ _ hsa)), rfl, _, rfl⟩ (by decide) (by decide) (by rfl) (by rfl) ?_
    have hRv9 : All2 (isRow prog w I8) Rvs rows := hRv3.imp fun _ _ z => z.mono l38
    have hS15 := ((hS9.trans hs10).trans (hs11.trans hs12)).trans ((hs13.trans hs14).trans hs15)
    clear hS9 hs10 hs11 hs12 hs13 hs14 hs15
    refine comp_filter (R := isRow prog w) (fun r => !(r.name == c.name)) rmono S9.ok r.hd (l38 _ _ (le3 _ _ hRa)) hRv9 (by omega) ?_ ?_ (by decide) (by rfl) (by rfl) (by decide)
    · intro v y I₁ C m₁ mu₁ s₁ hy hr hle hm Sc hs
      obtain ⟨ra, rn, u0, u1, u2, u3, d, u5, rfl, hra, hcd⟩ := hr
      refine wpAny_isTrue_Compare1 (Subscript_ (ld Sc (v := .ref ra) hm (wpAny_Constant_int (item_tupleT ⟨_, Sc.ok.inh _ _ hra, rfl, _, rfl⟩ (by decide) (by decide) (by rfl) (by rfl) (ldCell (by rfl) (Sc.ok.inh _ _ (hle _ _ (l38 _ _ hname))) (ne_str (wpAny_truthy_bool ⟨?_, I₁, hs.toks, le.refl _, Sc⟩)))))))
      rfl
    · intro D2 C2 I₁ m₁ zs n2 mu₁ s₁ hle2 hzs Sc2 hs2
      refine post_some' S9 Sc2 hs2 (fun s16 I10 le10 hD2 hs16 S10 => ?_)
      refine hQ3 _ ?_
      have l310 := l38.trans (hle2.trans le10)
      have hz6 : isRow prog w I8 (.ref z) (zeroRow c.name) := by
        refine ⟨z, 0, t0', t1', t2', t3', d, ct, rfl, (le7.trans le8) _ _ hz, _, [], (le6.trans (le7.trans le8)) _ _ hd, ⟨#[], 0, ⟨rfl, rfl, rfl⟩, rfl, fun e he => (by simp at he), .nil, List.nodup_nil⟩, fun _ => .inl ⟨rfl, rfl⟩⟩
      have hall : All2 (isRow prog w I8) (ys ++ [.ref z]) ((rows.filter fun r => r.name == c.name) ++ [zeroRow c.name]) := (hys4.imp fun _ _ q => q.mono (l47.trans le8)).append (.cons hz6 .nil)
      obtain ⟨ov, hov, hor⟩ : ∃ ov, (ys ++ [Value.ref z])[0]? = some ov ∧ isRow prog w I8 ov (oldRow rows c.name) := by
        unfold oldRow
        generalize ys ++ [Value.ref z] = l1 at hall
        generalize q : (rows.filter fun r => r.name == c.name) ++ [zeroRow c.name] = l2 at hall
        cases hall with
        | nil => simp at q
        | cons q1 _ => exact ⟨_, rfl, q1⟩
      have hocal : CalIn (oldRow rows c.name).cal := by
        unfold oldRow
        cases q : rows.filter fun r => r.name == c.name with
        | nil => intro k hk; exact absurd rfl hk
        | cons a as => exact hcal a (List.mem_filter.mp (q ▸ List.mem_cons_self : a ∈ rows.filter fun r => r.name == c.name)).1
      have honm : (oldRow rows c.name).name = c.name := by
        unfold oldRow
        cases q : rows.filter fun r => r.name == c.name with
        | nil => rfl
        | cons a as => exact beq_iff_eq.mp (List.mem_filter.mp (q ▸ List.mem_cons_self : a ∈ rows.filter fun r => r.name == c.name)).2
      generalize heo : oldRow rows c.name = orow at hor hocal honm
      obtain ⟨oa, on, o0, o1, o2, o3, od, o5, rfl, hoa, hod⟩ := hor
      obtain ⟨oc, ood, ofd, osl, e65⟩ := obj65 w.params
      have i65 := k.prog 65 _ e65 (by decide) (by decide) (by decide)
      have hS16 := hS15.trans hs16
      clear hs16 hS15
      refine execs_consN fun Q4 hQ4 => (wpAny_Assign_Name (wpAny_BinOp (Call_Name rfl (ldG S10.ok (v := .ref 65) (by kernel_rfl!) ?_))))
      refine callN (I := I) (keep_fn i65) ?_
      refine spliced_more ?_
      refine five ?_
      refine Subscript_ (ld S10 (v := .ref old) (by rfl) (int' fun _ s17 e17 hs17 => ?_))
      refine item_listL ⟨_, by rw [e17]; exact S10.ok.inh _ _ ((hle2.trans le10) _ _ hold), rfl, _, rfl⟩ (by decide) (by decide) hov ?_
      refine int' fun u5' s18 e18 hs18 => ?_
      rw [← e17, ← e18] at S10
      have hS18 := hS16.trans (hs17.trans hs18)
      clear hS16 hs17 hs18
      refine ⟨oa, _, _, _, _, _, _, _, u5', rfl, rfl, S10.ok.inh _ _ ((hle2.trans le10) _ _ hoa), wi S10 fun I11 fv s19 le11 hfv _ hs19 S11 => ?_⟩
      refine spliced_more ?_
      refine Subscript_ (ld S11 (v := .ref ca) (by rfl) (int' fun _ s20 e20 hs20 => ?_))
      rw [← e20] at S11
      have l3_11 := l310.trans le11
      refine item_tupleT ⟨_, S11.ok.inh _ _ ((le3.trans l3_11) _ _ hca), rfl, _, rfl⟩ (by decide) (by decide) (by rfl) (by rfl) ?_
      refine spliced_none ⟨fun b o e => S11.ok.inh _ _ ((le3.trans l3_11) _ _ e), ?_⟩
      refine (addStats (A := A.deeper _) S11.ok (Room.deeper (r.mono (by decide))) (tv := .ref fv) (c := orow.cal) ⟨fv, 0, o0, o1, o2, o3, od, rfl, hfv, hod.mono (hle2.trans (le10.trans le11))⟩ hocal ((le3.trans l3_11) _ _ hfa) ((le3.trans l3_11) _ _ hsd) hos).use' fun v I12 s21 hs21 g12 hv => ?_
      obtain ⟨na, nn, n0, n1, n2', n3, nd, rfl, hna, hncal⟩ := hv
      have S12 := S11.grow g12
      have l3_12 := l3_11.trans g12.le
      refine tupE ?_
      refine spliced_more ?_
      refine ldCell (by rfl) (S12.ok.inh _ _ (l3_12 _ _ hname)) ?_
      refine spliced_none ⟨by show 1 ≤ 100; decide, wi S12 fun I13 nt s22 le13 hnt _ hs22 S13 => ?_⟩
      refine addT S13 (le13 _ _ hna) hnt (by simp) (by simp) (by show 5 + 1 ≤ 1000; decide) fun I14 nw s23 le14 hnw _ hs23 S14 => ?_
      refine stC' S14 (by rfl) fun s24 I15 le15 hnew hs24 S15 => ?_
      refine hQ4 _ ?_
      have l3_15 := l3_12.trans (le13.trans (le14.trans le15))
      have hS24 := ((hS18.trans (hs19.trans hs20)).trans (hs21.trans hs22)).trans (hs23.trans hs24)
      clear hS18 hs19 hs20 hs21 hs22 hs23 hs24
      have hnrow : isRow prog w I15 (.ref nw) (addRow orow c) := by
        refine ⟨nw, 0, n0, n1, n2', n3, nd, ct, rfl, ?_, hncal.mono (le13.trans (le14.trans le15))⟩
        have := le15 _ _ hnw
        rw [show (addRow orow c).name = c.name from honm]
        exact this
      obtain ⟨mt, cvv, hkc, hmt, hcomp⟩ := id hK
      obtain ⟨as, ⟨Y⟩⟩ := hkc.frag
      have hzl : zs.length ≤ 100 := by rw [hzs.length]; exact Nat.le_trans (List.length_filter_le ..) hrl
      have l1_15 : le I₁ I15 := le10.trans (le11.trans (g12.le.trans (le13.trans (le14.trans le15))))
      have hD215 := (le11.trans (g12.le.trans (le13.trans (le14.trans le15)))) _ _ hD2
      have hzs15 : All2 (isRow prog w I15) zs (rows.filter fun r => !(r.name == c.name)) := hzs.imp fun _ _ q => q.mono l1_15
      -- place
      refine execs_consN fun Q5 hQ5 => (wpAny_Assign_Name (Call_Name rfl (ldB S15.ok (v := .builtin "len") (by kernel_rfl!) (by kernel_rfl!) ?_)))
      refine callN (I := I15) keep_b ?_
      refine spliced_more ?_
      refine compN (cl := [("new", L + 2), ("key", cell)]) (ld S15 (v := .ref D2) (by rfl) ?_) (by rfl) (by rfl) (by decide) (fun _ => by rfl)
      refine comp_filter (R := isRow prog w) (fun r => decide (cmpK keys r (addRow orow c) ≤ 0)) rmono S15.ok r.hd hD215 hzs15 (by omega) ?_ ?_ (by decide) (by rfl) (by rfl) (by decide)
      · intro v y Ia Ca ma mua sa' hy hr hle hm Sc hs
        have lI := le3.trans (l3_15.trans hle)
        have kp : ∀ I', le I I' → Keeps (model prog w) I' (.ref C) := fun I' l => fun h ih => keep_frag Y.keepC h (fun b o e => ih _ _ (l _ _ e))
        refine wpAny_isTrue_Compare1 (Call_Name rfl (ldCell (by rfl) (Sc.ok.inh _ _ (lI _ _ hcell)) ?_))
        refine callN (I := Ia) (kp _ lI) (spliced_more (ld Sc hm (spliced_none ⟨Sc.ok.inh, ?_⟩)))
        refine (mkI Sc.ok (Room.deeper (r.mono (by decide))) (hkc.mono lI)).use' fun k1 Ib sb hsb gb hk1 => ?_
        have Sd := Sc.grow gb
        refine Call_Name rfl (ldCell (by rfl) (Sd.ok.inh _ _ ((lI.trans gb.le) _ _ hcell)) ?_)
        refine callN (I := Ib) (kp _ (lI.trans gb.le)) (spliced_more (ldCell (by rfl) (Sd.ok.inh _ _ ((hle.trans gb.le) _ _ hnew)) (spliced_none ⟨Sd.ok.inh, ?_⟩)))
        refine (mkI Sd.ok (Room.deeper (r.mono (by decide))) (hkc.mono (lI.trans gb.le))).use' fun k2 Ic sc hsc gc hk2 => ?_
        have Se := Sd.grow gc
        refine (leK Se.ok (Room.deeper (r.mono (by decide))) (hK.mono (lI.trans (gb.le.trans gc.le))) (hk1.mono gc.le) hk2 (hr.mono (gb.le.trans gc.le)) (hnrow.mono (hle.trans (gb.le.trans gc.le))) hk).use' fun v Id sd hsd gd hv => ?_
        subst hv
        exact wpAny_truthy_bool ⟨rfl, Id, hs.trans (hsb.trans (hsc.trans hsd)), gb.le.trans (gc.le.trans gd.le), Se.grow gd⟩
      · intro D3 C3 Ia ma ps n3' mua sa' hle3 hps Sc3 hs3
        refine post_none' Sc3 hs3 fun s25 I16 l16 hD3 hs25 g16 => ?_
        have S16 := S15.grow g16
        refine spliced_none ⟨fun b o e => S16.ok.inh _ _ (g16.le _ _ e), ?_⟩
        have hpl : ps.length = placeOf keys (rows.filter fun r => !(r.name == c.name)) (addRow orow c) := hps.length
        have hpb : ps.length ≤ 100 := by rw [hpl]; unfold placeOf; rw [hzs.length] at hzl; exact Nat.le_trans (List.length_filter_le ..) hzl
        refine len_list ⟨_, S16.ok.inh _ _ hD3, rfl, _, rfl⟩ (by rw [List.size_toArray]; omega) ?_
        rw [List.size_toArray]
        have S17 : St w.params [93] s.heap I I16 L _ _ ({ s25 with toks := s25.toks + 1 + 1 } : Shared).heap := S16
        have hs26 : Same s25 { s25 with toks := s25.toks + 1 + 1 } := ⟨_, _, rfl⟩
        generalize ({ s25 with toks := s25.toks + 1 + 1 } : Shared) = s26 at S17 hs26 ⊢
        generalize s25.toks + 1 = tp
        refine st' S17 fun s27 hs27 S18 => ?_
        refine hQ5 _ ?_
        have hS27 := (hS24.trans hs25).trans (hs26.trans hs27)
        clear hS24 hs25 hs26 hs27
        -- rows
        have hD216 := g16.le _ _ hD215
        refine execs_consN fun Q6 hQ6 => (wpAny_Assign_Name (wpAny_BinOp (wpAny_BinOp (sliceE (ld S18 (v := .ref D2) (by rfl) (wpAny_evalPart_none (wpAny_evalPart_some (ld S18 (v := .int ps.length tp) (by rfl) ?_))))))))
        refine ⟨D2, none, some ps.length, rfl, .none, .int _ _, wil S18 hD216 (by omega) fun ws1 hw1 I17 x1 s28 le17 hx1 _ hs28 S19 => ?_⟩
        refine listE ?_
        refine spliced_more ?_
        refine ldCell (by rfl) (S19.ok.inh _ _ ((g16.le.trans le17) _ _ hnew)) ?_
        refine spliced_none ⟨by show 1 ≤ 100; decide, wi S19 fun I18 x2 s29 le18 hx2 _ hs29 S20 => ?_⟩
        rw [slicePick_upto'] at hw1
        have ew1 : zs.take ps.length = ws1 := by simpa using congrArg Array.toList hw1
        subst ew1
        refine addL S20 (le18 _ _ hx1) hx2 (by show (zs.take ps.length).length + 1 ≤ 1000; rw [List.length_take]; omega) fun I19 x3 s30 le19 hx3 _ hs30 S21 => ?_
        refine sliceE (ld S21 (v := .ref D2) (by rfl) (wpAny_evalPart_some (ld S21 (v := .int ps.length tp) (by rfl) (wpAny_evalPart_none ?_))))
        refine ⟨D2, some ps.length, none, rfl, .int _ _, .none, wil S21 ((le17.trans (le18.trans le19)) _ _ hD216) (by omega) fun ws2 hw2 I20 x4 s31 le20 hx4 _ hs31 S22 => ?_⟩
        rw [slicePick_from'] at hw2
        have ew2 : zs.drop ps.length = ws2 := by simpa using congrArg Array.toList hw2
        subst ew2
        refine addL S22 (le20 _ _ hx3) hx4 (by rw [List.length_append, List.length_take, List.length_drop, List.length_singleton]; omega) fun I21 x5 s32 le21 hx5 _ hs32 S23 => ?_
        refine st' S23 fun s33 hs33 S24 => ?_
        refine hQ6 _ ?_
        have hS33 := ((hS27.trans (hs28.trans hs29)).trans (hs30.trans hs31)).trans (hs32.trans hs33)
        clear hS27 hs28 hs29 hs30 hs31 hs32 hs33
        have l15_21 : le I15 I21 := g16.le.trans (le17.trans (le18.trans (le19.trans (le20.trans le21))))
        have l21 : le I I21 := le3.trans (l3_15.trans l15_21)
        have hrows : isRows prog w I21 (.ref x5) (stepRows keys rows c) := by
          refine ⟨x5, 0, _, rfl, hx5, ?_⟩
          unfold stepRows
          dsimp only
          rw [heo, ← hpl]
          have hz21 := hzs15.imp fun (_ : Value) (_ : Row) q => q.mono l15_21
          exact ((hz21.take _).append (.cons (hnrow.mono l15_21) .nil)).append (hz21.drop _)
        refine wpAny_execs_cons (wpAny_Return_some (tupE ?_))
        refine spliced_more ?_
        refine ld S24 (v := .ref x5) (by rfl) ?_
        refine spliced_more ?_
        refine wpAny_BinOp ?_
        refine Subscript_ (ld S24 (v := .ref sa) (by rfl) (int' fun _ s34 e34 hs34 => ?_))
        rw [← e34] at S24
        refine item_tupleT ⟨_, S24.ok.inh _ _ (l21 _ _ hsa), rfl, _, rfl⟩ (by decide) (by decide) (by rfl) (by rfl) ?_
        refine listE ?_
        refine spliced_more ?_
        refine ld S24 (v := .ref x5) (by rfl) ?_
        refine spliced_none ⟨by show 1 ≤ 100; decide, wi S24 fun I22 x6 s35 le22 hx6 _ hs35 S25 => ?_⟩
        refine addL S25 ((l21.trans le22) _ _ hTa) hx6 (by rw [hTv.length, List.length_singleton]; omega) fun I23 x7 s36 le23 hx7 _ hs36 S26 => ?_
        refine spliced_none ⟨by show 2 ≤ 100; decide, wi S26 fun I24 x8 s37 le24 hx8 _ hs37 S27 => ?_⟩
        refine hQ0 _ _ <| leave' (R := fun I' v => isState prog w I' v (stepRows keys rows c) (told ++ [stepRows keys rows c])) S27 (hS33.trans (hs34.trans (hs35.trans (hs36.trans hs37)))) ?_
        have l24 : le I21 I24 := le22.trans (le23.trans le24)
        exact ⟨x8, 0, _, _, rfl, hx8, hrows.mono l24, x7, 0, _, rfl, le24 _ _ hx7, (hTv.imp fun _ _ q => q.mono (l21.trans l24)).append (.cons (hrows.mono l24) .nil)⟩
end
end Mine

-- part LStep
set_option maxRecDepth 100000
set_option maxHeartbeats 0
set_option pp.deepTerms false
set_option pp.maxSteps 2500
namespace Mine
open PySem PySem.W PySem.W.X PyProof.Rows PySem.Calls
section
variable {prog : Program} {w : World} {A : Around} {E : Value → Shared → Prop} {s : Shared} {I : Kn}
-- _law_step
theorem stepT {C : Addr} (k : Ok w.params I s.heap) (r : Room A 60) (h86 : s.heap.get? 86 = some (tableObj #[])) (i86 : I 86 = none) :
    wpAny (model prog w) A (call (.ref 91) [.ref C]) (fun v s' => ∃ nx, v = .ref nx ∧ Same s s' ∧ GrowT 86 s.heap I s'.heap (frz I s.heap s'.heap) ∧ (∃ ps, s'.heap.get? 86 = some (tabObj ps)) ∧ isNext w (frz I s.heap s'.heap) nx C) NoE s := by
  refine enterC (fd := _) k r.lim (k.prog 91 _ (by rfl) (by decide) (by decide) (by decide)) (by rfl) ⟨90, _, _, _, by rfl, k.prog 90 _ (by rfl) (by decide) (by decide) (by decide), by rfl, by rfl⟩ (by rfl) (x := "key") (by rfl) (fun L h₁ tk hL S => ?_)
  obtain ⟨gl1, gl2, vn, gl3⟩ := globs S.ok
  have hcell := S.own _ (.head _)
  have hL' : ∀ b o, s.heap.get? b = some o → b ≠ 93 → h₁.get? b = some o := fun b o e z => S.base b o (by simpa using z) e
  have n86 : ∀ b, s.heap.get? b = none → b ≠ 86 := fun b e z => by rw [z, h86] at e; cases e
  refine wpAny_execs_cons (nestDef_K (by rfl) (by rfl) (by rfl) ?_)
  refine makeFunction_K (mg := h₁.nsMap 3) (P := 86) (ps := #[]) (c := 90) (clos := [("key", L + 1)]) (by rfl) rfl gl1 rfl ⟨_, _, _, _, _, _, _, _, _, S.ok.inh _ _ (k.prog 90 _ (by rfl) (by decide) (by decide) (by decide)), rfl, rfl, rfl, rfl, rfl, rfl, rfl, rfl, by decide⟩ (hL' _ _ h86 (by decide)) ⟨⟩ rfl (by decide) (gl2 86 (by decide)) fun c' ctv doc h' tk' hx hge hlt hrec hP => ?_
  dsimp only at hx hge
  have nL : L ≠ 86 := n86 _ S.newL
  have ns2 : ∀ fo : Obj, (h'.push fo).Ns L (fun _ => none) := fun fo => by
    obtain ⟨o, es, ep, e, rr⟩ := S.ns
    exact ⟨o, es, ep, Heap.get?_push_of_some _ (hx _ _ nL e), rr⟩
  refine wpAny_storeName_local (by rfl) (ns2 _) (fun h3 n3 s3 => ?_) (by rfl)
  refine wpAny_execs_cons (wpAny_Return_some (wpAny_Name (wpAny_loadName_local (by rfl) (by rfl) n3 (by rfl) ?_)))
  have s3' : ∀ b o, b ≠ L → h'.get? b = some o → h3.get? b = some o := fun b o z e => (s3.2 b z).trans (Heap.get?_push_of_some _ e)
  have old : ∀ b o, b ≠ 86 → b ≠ 93 → s.heap.get? b = some o → h3.get? b = some o := fun b o z z9 e =>
    s3' b o (fun z' => by have := S.newL; rw [← z', e] at this; cases this) (hx b o z (hL' b o e z9))
  have tb3 : Tab I h3 := tab_keep S.ok.tab (fun o e => s3' _ _ (Ne.symm S.neL) (hx _ _ (by decide) e)) (le.refl _)
  have LS : L < h'.objs.size := Nat.lt_trans (Nat.lt_of_lt_of_le S.ns.lt hge) hlt
  have nn : ∀ b, h₁.objs.size ≤ b → s.heap.get? b = none := fun b hb => by
    have e0 : h₁.get? b = none := Heap.get?_none_of_le hb
    cases e : s.heap.get? b with
    | none => rfl
    | some o =>
      by_cases z : b = 93
      · subst z; obtain ⟨o', e'⟩ := tab_there S.ok.tab; rw [e'] at e0; cases e0
      · rw [hL' _ _ e z] at e0; cases e0
  have cn := nn c' hge
  have fnn := nn h'.objs.size (Nat.le_trans hge (Nat.le_of_lt hlt))
  refine ⟨h'.objs.size, rfl, ⟨h3, _, rfl⟩, frz_growT k.inh i86 k.t93 old tb3, ⟨_, s3' _ _ (Ne.symm nL) hP⟩, ?_⟩
  obtain ⟨c₂, oc, vs, t, q1, q2, q3, q4⟩ := hrec
  cases q1
  have ncL : c' ≠ L := Nat.ne_of_gt (Nat.lt_of_lt_of_le S.ns.lt hge)
  refine ⟨_, L + 1, doc, _, c', ctv, (rfl : stO w.params 91 0 = some _), frz_new k.inh fnn ((s3.2 _ (Nat.ne_of_gt LS)).trans (Heap.get?_push_size _ rfl)), ⟨c', oc, vs, t, rfl, frz_new k.inh cn (s3' _ _ ncL q2), q3, q4⟩, ?_⟩
  exact frz_new k.inh hcell.2.2.2 (s3' _ _ (Nat.succ_ne_self L) (hx _ _ (n86 _ hcell.2.2.2) hcell.1))
end
end Mine

-- part LReduce
set_option maxRecDepth 100000
set_option maxHeartbeats 0
set_option pp.deepTerms false
set_option pp.maxSteps 2500
namespace Mine
open PySem PySem.W PySem.W.X PyProof.Rows PySem.Calls
section
variable {P : Params} {prog : Program} {w : World} {A : Around} {E : Value → Shared → Prop} {s : Shared} {env : Env} {X : List Addr} {h₀ : Heap} {I₀ I : Kn} {L : Addr} {m : Str → Option Value} {mu : List (Addr × Obj)}
theorem iterL {l : Addr} {vs : List Value} {ep : Nat} {Q : Value → Shared → Prop} (S : St P X h₀ I₀ I L m mu s.heap) (hl : I l = some (listO vs ep))
    (h : ∀ a o s', o.cls = .type "list_iterator" → o.data = .fields #[.ref l, .int 0 0] → Same s s' → St P X h₀ I₀ I L m ((a, o) :: mu) s'.heap → Q (.ref a) s') : wpAny (model prog w) A (call (.builtin "iter") [.ref l]) Q E s := by
  refine call_function_entry (by decide +kernel) (by decide +kernel) kdk_entry_iter (kdk_args_iter _) ?_
  unfold Builtin.«iter»
  refine wpAny_bind (m := someArgs "iter" 1 2 _) (wpAny_of_eq (a := [Value.ref l]) (by first | rfl | kernel_rfl!) ?_)
  show wpAny _ _ (pyIter (.ref l) >>= _) _ _ _
  refine wpAny_bind (wpAny_pyIter_list ⟨_, S.ok.inh _ _ hl, rfl, ep, rfl⟩ ?_)
  exact wpAny_pure ⟨_, rfl, h _ _ _ rfl rfl ⟨_, _, rfl⟩ (S.push rfl)⟩
end
noncomputable def runR (ks : List (Nat × Int)) (cs : List Cl) : List Row := cs.foldl (stepRows ks) []
noncomputable def toldR (ks : List (Nat × Int)) (cs : List Cl) (n : Nat) : List (List Row) := (List.range n).map fun j => runR ks (cs.take (j + 1))
theorem runR_succ {ks : List (Nat × Int)} {cs : List Cl} {i : Nat} {c : Cl} (h : cs[i]? = some c) : runR ks (cs.take (i + 1)) = stepRows ks (runR ks (cs.take i)) c := by
  unfold runR
  rw [List.take_add_one, h]
  simp [List.foldl_append]
theorem toldR_succ (ks : List (Nat × Int)) (cs : List Cl) (i : Nat) : toldR ks cs (i + 1) = toldR ks cs i ++ [runR ks (cs.take (i + 1))] := by
  unfold toldR
  rw [List.range_succ, List.map_append]
  rfl
theorem isState.mono {prog : Program} {w : World} {I J : Kn} {v : Value} {rows : List Row} {told : List (List Row)} (h : isState prog w I v rows told) (l : le I J) : isState prog w J v rows told := by
  obtain ⟨sa, n, R, T, e, h1, h2, h3⟩ := h
  exact ⟨sa, n, R, T, e, l _ _ h1, h2.mono l, isLst.mono h3 l fun _ _ x => isRows.mono x l⟩
section
variable {prog : Program} {w : World} {A : Around} {E : Value → Shared → Prop} {s : Shared} {I : Kn}
-- a def's call whose defaults lie in a tuple
theorem enterD {fd : FuncData} {f : Addr} {o : Obj} {pos : List Value} {kw : List (Str × Value)} {binds : List (Str × Value)} {body : List Stmt} {R : Kn → Value → Prop} (mu : Addr → List (Addr × Obj))
    (k : Ok w.params I s.heap) (hr : A.depth < recursionLimit) (ho : I f = some o) (hdata : o.data = .func fd) (hcd : CodeI I fd.code fd.qualname) (hbody : fd.body = .stmts body) (hbind : BindsTo s fd ⟨pos, kw⟩ binds)
    (hl : ∀ x ∈ binds, fd.scope.names.lookup x.1 = some .local)
    (h : ∀ L s₁, Same s s₁ → St w.params [93] s.heap I I L (fun x => binds.reverse.lookup x) (mu L) s₁.heap →
      wpAny (model prog w) (A.deeper (envF fd f L))
        (execs body (envF fd f L))
        (fun fl s' => ∃ I', GrowS s I s' I' ∧ R I' (match fl with | .ret v => v | _ => .none)) (fun _ _ => False) s₁)
    (hmu : ∀ L, cellsM (L + 1) fd.scope.names [] = mu L := by intro _; rfl) (hco : fd.scope.isCoroutine = false := by rfl) (hgen : fd.scope.isGenerator = false := by rfl) (hk : fd.scope.kind = .function := by rfl) :
    Ends prog w A I (call (.ref f) pos kw) R s := by
  refine Ends.of_code (codeAny_call_function hr (k.inh _ _ ho) hdata hco hgen hbody (hcd.rec k.inh) ?_)
  refine hbind _ _ _ _ (newEnv_St k hk hl fun h₁ tk S => ⟨nolimit (S.ok), codeAny_func ?_⟩)
  rw [hmu] at S
  exact wpAny_mono (h _ { s with heap := h₁, toks := tk } ⟨_, _, rfl⟩ S) (fun _ _ x => x) fun _ _ f => f.elim
theorem objMiss (P : Params) : ∃ a o, ((KK P).lookup 3).bind (lookIn "_initial_missing") = some (some (.ref a)) ∧ (KK P).lookup a = some o ∧ a ≠ 16 ∧ a ≠ 86 ∧ a ≠ 93 ∧ o.cls ≠ .type "tuple" := ⟨_, _, by rfl, by rfl, by decide, by decide, by decide, by show Value.type "object" ≠ Value.type "tuple"; decide⟩
-- reduce(_law_next, calls, ([], []))
theorem redW {nx C l : Addr} {keys : List (Nat × Int)} {sv : Value} {cs : List Cl} {vs : List Value} {ep : Nat} (k : Ok w.params I s.heap) (r : Room A 80) (hnx : isNext w I nx C) (hK : isKey' w I C keys) (hk : ∀ k ∈ keys, KeyOk k)
    (hst : isState prog w I sv [] []) (hl : I l = some (listO vs ep)) (hcs : All2 (isCall prog w I) vs cs) (hlen : cs.length ≤ 90) (hrows : ∀ i, i ≤ cs.length → (runR keys (cs.take i)).length ≤ 100 ∧ ∀ r ∈ runR keys (cs.take i), CalIn r.cal) :
    Ends prog w A I (call (.ref 30) [.ref nx, .ref l, sv]) (fun I' v => isState prog w I' v (runR keys cs) (toldR keys cs cs.length)) s := by
  refine enterD (fd := _) (binds := [("function", .ref nx), ("sequence", .ref l), ("initial", sv)]) (fun L => []) k r.lim (k.prog 30 _ (by rfl) (by decide) (by decide) (by decide)) (by rfl) ⟨29, _, _, _, by rfl, k.prog 29 _ (by rfl) (by decide) (by decide) (by decide), by rfl, by rfl⟩ (by rfl) ?bd (locs (by rfl)) (fun L s1 hs1 S => ?_)
  case bd => exact BindsTo.of_defaults rfl (k.inh _ _ (k.prog _ _ rfl (by decide) (by decide) (by decide))) rfl rfl rfl
  refine genQ fun Q0 hQ0 => ?_
  refine wpAny_execs_cons (wpAny_Assign_Name (Call_Name rfl (ldB S.ok (v := .builtin "iter") (by kernel_rfl!) (by kernel_rfl!) ?_)))
  refine callN (I := I) keep_b (spliced_more (ld S (v := .ref l) (by rfl) (spliced_none ⟨S.ok.inh, ?_⟩)))
  refine iterL S hl fun it oit s2 hc hd hs2 S2 => ?_
  refine st' S2 fun s3 hs3 S3 => ?_
  obtain ⟨ma, mo, em, el, m16, m86, m93, mc⟩ := objMiss w.params
  have im := k.prog ma mo el m16 m86 m93
  obtain ⟨sa, n, R, T, rfl, hsa, hR, hT⟩ := id hst
  refine wpAny_execs_cons (wpAny_If (wpAny_isTrue_Compare1 (ld S3 (v := .ref sa) (by rfl) (ldG S3.ok (v := .ref ma) em ?_))))
  show wpAny _ _ (do return Value.bool (← isSame (.ref sa) (.ref ma))) _ _ _
  have ne : sa ≠ ma := fun e => by rw [e, im] at hsa; cases hsa; exact mc rfl
  refine wpAny_bind (SeqAt.wpAny_isSame_ref_other' ne (S3.ok.inh _ _ hsa) (S3.ok.inh _ _ im) mc (wpAny_pure (wpAny_truthy_bool ?_)))
  refine wpAny_execs_cons (wpAny_Assign_Name (ld S3 (v := .ref sa) (by rfl) (st' S3 fun s4 hs4 S4 => wpAny_execs_nil ?_)))
  have hS4 := (hs1.trans hs2).trans (hs3.trans hs4)
  clear hs1 hs2 hs3 hs4
  refine wpAny_execs_cons (wpAny_For (ld S4 (v := .ref it) (by rfl) ?_))
  obtain ⟨st, cell, doc, pm, c', ctv, est, hf, hcd, hcell⟩ := id hnx
  have hvl : vs.length = cs.length := hcs.length
  refine for_liter (A := A.deeper _) (Q := _) (by exact r.hd) hl S4 hc hd ?hT
    (fun i I₁ m₁ mu₁ => mu₁ = [] ∧ m₁ (Str.ofString "function") = some (.ref nx) ∧ ∃ v, m₁ (Str.ofString "value") = some v ∧ isState prog w I₁ v (runR keys (cs.take i)) (toldR keys cs i)) ⟨rfl, rfl, _, rfl, hst⟩ ?_ ?_
  case hT => exact .inl fun _ _ => rfl
  · rintro i v I₁ m₁ mu₁ s₁ it' oit' hv hle ⟨rfl, m1, sv', m2, hsv⟩ S5 hs5
    refine genT fun Q1 hQ1 => ?_
    obtain ⟨c, hcc, hci⟩ := hcs.get hv
    have hi : i < cs.length := (List.getElem?_eq_some_iff.mp hcc).1
    have hb := hrows i (Nat.le_of_lt hi)
    refine wpAny_assign_Name (st' S5 fun s6 hs6 S6 => ?_)
    refine wpAny_execs_cons (wpAny_Assign_Name (Call_Name rfl (ld S6 (v := .ref nx) (by exact m1) ?_)))
    refine callN (I := I₁) (keep_fn (hle _ _ hf)) (spliced_more (ld S6 (v := sv') (by exact m2) (spliced_more (ld S6 (v := v) (by rfl) (spliced_none ⟨S6.ok.inh, ?_⟩)))))
    refine (nextW (A := A.deeper _) S6.ok (Room.deeper (r.mono (by decide))) (hnx.mono hle) (hK.mono hle) hk hsv hb.1 (by unfold toldR; rw [List.length_map, List.length_range]; omega) hb.2 (hci.mono hle)).use' fun v' I₂ s7 hs7 g hv' => ?_
    refine st' (S6.grow g) fun s8 hs8 S8 => wpAny_execs_nil (hQ1 _ _ ?_)
    refine ⟨I₂, _, [], hs5.trans ((hs6.trans hs7).trans hs8), g.le, ?_, S8⟩
    refine ⟨rfl, m1, v', rfl, ?_⟩
    rw [runR_succ hcc, toldR_succ, runR_succ hcc]
    exact hv'
  · rintro I₁ m₁ mu₁ s₁ hle ⟨rfl, m1, sv', m2, hsv⟩ S5 hs5
    refine wpAny_execs_cons (wpAny_Return_some (ld S5 (by exact m2) ?_))
    rw [hvl, List.take_length] at hsv
    exact hQ0 _ _ <| leave' (R := fun I' v => isState prog w I' v (runR keys cs) (toldR keys cs cs.length)) S5 (hS4.trans hs5) hsv
end
end Mine

-- part LInt
set_option maxRecDepth 100000
set_option maxHeartbeats 0
set_option pp.deepTerms false
set_option pp.maxSteps 2500
namespace Mine
open PySem PySem.W PySem.W.X PyProof.Rows PySem.Calls
section
variable {P : Params} {prog : Program} {w : World} {A : Around} {E : Value → Shared → Prop} {s : Shared} {env : Env} {X : List Addr} {h₀ : Heap} {I₀ I : Kn} {L : Addr} {m : Str → Option Value} {mu : List (Addr × Obj)} {Q : Value → Shared → Prop} {a b : Int} {t u : Tok}
abbrev NI (Q : Value → Shared → Prop) (s : Shared) (i : Int) : Prop := ∀ t s', s'.heap = s.heap → Same s s' → Q (.int i t) s'
theorem mod' (hb : 0 < b) (h : NI Q s (a % b)) : wpAny (model prog w) A (binaryOp .Mod (.int a t) (.int b u)) Q E s :=
  mod_int (by omega) (by rw [Int.fmod_eq_emod_of_nonneg _ (Int.le_of_lt hb)]; exact h _ _ rfl ⟨_, _, rfl⟩)
theorem div' (hb : 0 < b) (hb2 : b < 100000) (h : NI Q s (a / b)) : wpAny (model prog w) A (binaryOp .FloorDiv (.int a t) (.int b u)) Q E s :=
  floordiv_int (by omega) (by rw [Int.fdiv_eq_ediv_of_nonneg _ (Int.le_of_lt hb)]; exact h _ _ rfl ⟨_, _, rfl⟩) (Or.inl (PyProof.noPylong_small (by omega)))
theorem add' (h : NI Q s (a + b)) : wpAny (model prog w) A (binaryOp .Add (.int a t) (.int b u)) Q E s := PyProof.Rows.add_int (h _ _ rfl ⟨_, _, rfl⟩)
theorem sub' (h : NI Q s (a - b)) : wpAny (model prog w) A (binaryOp .Sub (.int a t) (.int b u)) Q E s := PyProof.Rows.sub_int (h _ _ rfl ⟨_, _, rfl⟩)
theorem str' {x : Str} {k : Nat} {pos : Pos} (h : ∀ t s', s'.heap = s.heap → Same s s' → Q (.str x t) s') : wpAny (model prog w) A (eval (.Constant (.str x) k pos) env) Q E s :=
  wpAny_Constant_str (h _ _ rfl ⟨_, _, rfl⟩)
-- {k: v}
theorem dict1E {ke ve : PySem.Expr} {pos : Pos} (S : St P X h₀ I₀ I L m mu s.heap)
    (h : ∀ D s0, Same s s0 → St P X h₀ I₀ I L m ((D, { cls := .type "dict", data := .dict #[] }) :: mu) s0.heap → wpAny (model prog w) A (eval ke env) (fun kv s₁ => wpAny (model prog w) A (eval ve env) (fun v s₂ =>
      ∃ kk t, kv = .int kk t ∧ St P X h₀ I₀ I L m ((D, { cls := .type "dict", data := .dict #[] }) :: mu) s₂.heap ∧ ∀ I' o s', le I I' → I' D = some o → CalO prog w o [(kk, v)] → Same s₂ s' → St P X h₀ I₀ I' L m mu s'.heap → Q (.ref D) s') E s₁) E s0) :
    wpAny (model prog w) A (eval (.Dict [some ke] [ve] pos) env) Q E s := by
  refine wpAny_Dict_walk (knd := intKind prog w) rfl rfl (by simp) (by simp) ?_
  refine evalPairs_cons ?_
  refine wpAny_mono (h _ { s with heap := s.heap.push { cls := .type "dict", data := .dict #[] } } ⟨_, _, rfl⟩ (S.push rfl)) (fun kv s₁ h₁ => ?_) fun _ _ e => e
  refine wpAny_bind (wpAny_mono h₁ (fun v s₂ h₂ => ?_) fun _ _ e => e)
  refine wpAny_bind (wpAny_standAt (wpAny_pure (evalPairs_nil ?_)))
  obtain ⟨kk, t, rfl, S2, hq⟩ := h₂
  have own := S2.own _ (.head _)
  have e0 : CalO prog w { cls := .type "dict", data := .dict #[] } [] := ⟨#[], 0, ⟨rfl, rfl, rfl⟩, rfl, fun e he => (by simp at he), .nil, List.nodup_nil⟩
  refine ⟨[(kk, v)], ⟨intKind_is _ _ _ _, rfl, trivial⟩, e0.of own.1, fun h' hd hs => ?_⟩
  obtain ⟨o, ho, hc⟩ := CalO.to hd
  have S3 := S2.upd hs ho
  exact hq _ o { s₂ with heap := h', toks := _ } (le_put (S3.own _ (.head _)).2.1) (put_self _ _ _) hc ⟨_, _, rfl⟩ S3.freeze
end
end Mine

-- part LCallW
set_option maxRecDepth 100000
set_option maxHeartbeats 0
set_option pp.deepTerms false
set_option pp.maxSteps 2500
namespace Mine
open PySem PySem.W PySem.W.X PyProof.Rows PySem.Calls
noncomputable def names5 : List Str := ["go", "", "run", "Go", "gone"]
noncomputable def clOf (x : Int) : Cl := { name := names5.getD (x % 600 % 5).toNat "", pr := x % 600 / 20 % 2, own := x % 600 / 40 % 5 - 1, whole := x % 600 / 40 % 5 - 1 + x % 600 / 200, who := x % 600 / 5 % 4 }
theorem pick5 {k : Int} (h0 : 0 ≤ k) (h1 : k < 5) (t0 t1 t2 t3 t4 : Tok) : ∃ j t, seqIndex? k 5 = some j ∧ ([Value.str "go" t0, .str "" t1, .str "run" t2, .str "Go" t3, .str "gone" t4] : List Value)[j]? = some (.str (names5.getD k.toNat "") t) := by
  have : k = 0 ∨ k = 1 ∨ k = 2 ∨ k = 3 ∨ k = 4 := by omega
  rcases this with rfl | rfl | rfl | rfl | rfl
  · exact ⟨0, t0, rfl, rfl⟩
  · exact ⟨1, t1, rfl, rfl⟩
  · exact ⟨2, t2, rfl, rfl⟩
  · exact ⟨3, t3, rfl, rfl⟩
  · exact ⟨4, t4, rfl, rfl⟩
section
variable {prog : Program} {w : World} {A : Around} {E : Value → Shared → Prop} {s : Shared} {I : Kn}
theorem callW {x : Int} {t : Tok} (k : Ok w.params I s.heap) (r : Room A 20) : Ends prog w A I (call (.ref 84) [.int x t]) (fun I' v => isCall prog w I' v (clOf x)) s := by
  refine enter' (fd := _) (binds := [("x", .int x t)]) (fun L => []) k r.lim (k.prog 84 _ (by rfl) (by decide) (by decide) (by decide)) (by rfl) ⟨83, _, _, _, by rfl, k.prog 83 _ (by rfl) (by decide) (by decide) (by decide), by rfl, by rfl⟩ (by rfl) (by rfl) (locs (by rfl)) (fun L s1 hs1 S => ?_)
  refine genQ fun Q0 hQ0 => ?_
  refine execs_consN fun Q1 hQ1 => (wpAny_Assign_Name (wpAny_BinOp (ld S (v := .int x t) (by rfl) (int' fun _ s2 e2 hs2 => mod' (by decide) fun ty s3 e3 hs3 => ?_))))
  rw [← e2, ← e3] at S
  refine st' S fun s4 hs4 S4 => ?_
  refine hQ1 _ ?_
  have hS4 := (hs1.trans hs2).trans (hs3.trans hs4)
  clear hs1 hs2 hs3 hs4 S e2 e3
  refine execs_consN fun Q2 hQ2 => (wpAny_Assign_Name ?_)
  refine wpAny_BinOp ?_
  refine wpAny_BinOp ?_
  refine wpAny_BinOp ?_
  refine ld S4 (v := .int (x % 600) ty) (by rfl) (int' fun _ s5 e5 hs5 => div' (by decide) (by decide) fun _ s6 e6 hs6 => ?_)
  refine int' fun _ s7 e7 hs7 => mod' (by decide) fun _ s8 e8 hs8 => ?_
  refine int' fun _ s9 e9 hs9 => sub' fun to s10 e10 hs10 => ?_
  rw [← e5, ← e6, ← e7, ← e8, ← e9, ← e10] at S4
  refine st' S4 fun s11 hs11 S5 => ?_
  refine hQ2 _ ?_
  have hS11 := (hS4.trans (hs5.trans hs6)).trans ((hs7.trans hs8).trans ((hs9.trans hs10).trans hs11))
  clear hS4 hs5 hs6 hs7 hs8 hs9 hs10 hs11 S4 e5 e6 e7 e8 e9 e10
  refine execs_consN fun Q3 hQ3 => (wpAny_Assign_Name (Subscript_ ?_))
  refine tupE ?_
  refine spliced_more (str' fun t0 s12 e12 hs12 => ?_)
  refine spliced_more (str' fun t1 s13 e13 hs13 => ?_)
  refine spliced_more (str' fun t2 s14 e14 hs14 => ?_)
  refine spliced_more (str' fun t3 s15 e15 hs15 => ?_)
  refine spliced_more (str' fun t4 s16 e16 hs16 => ?_)
  rw [← e12, ← e13, ← e14, ← e15, ← e16] at S5
  refine spliced_none ⟨by show 5 ≤ 100; decide, wi S5 fun I6 nt s17 le6 hnt _ hs17 S6 => ?_⟩
  refine wpAny_BinOp (ld S6 (v := .int (x % 600) ty) (by rfl) (int' fun _ s18 e18 hs18 => mod' (by decide) fun tq s19 e19 hs19 => ?_))
  rw [← e18, ← e19] at S6
  obtain ⟨j, tn, hj1, hj2⟩ := pick5 (k := x % 600 % 5) (Int.emod_nonneg _ (by decide)) (Int.emod_lt_of_pos _ (by decide)) t0 t1 t2 t3 t4
  have hb : 0 ≤ x % 600 % 5 ∧ x % 600 % 5 < 5 := ⟨Int.emod_nonneg _ (by decide), Int.emod_lt_of_pos _ (by decide)⟩
  refine item_tupleT ⟨_, S6.ok.inh _ _ hnt, rfl, _, rfl⟩ (by omega) (by omega) hj1 hj2 ?_
  refine st' S6 fun s20 hs20 S7 => ?_
  refine hQ3 _ ?_
  have hS20 := ((hS11.trans (hs12.trans hs13)).trans ((hs14.trans hs15).trans (hs16.trans hs17))).trans ((hs18.trans hs19).trans hs20)
  clear hS11 hs12 hs13 hs14 hs15 hs16 hs17 hs18 hs19 hs20 S5 S6 e12 e13 e14 e15 e16 e18 e19
  refine wpAny_execs_cons (wpAny_Return_some (tupE ?_))
  refine spliced_more (ld S7 (v := .str (names5.getD (x % 600 % 5).toNat "") tn) (by rfl) ?_)
  refine spliced_more (tupE ?_)
  refine spliced_more (wpAny_BinOp (wpAny_BinOp ?_))
  refine ld S7 (v := .int (x % 600) ty) (by rfl) (int' fun _ s21 e21 hs21 => div' (by decide) (by decide) fun _ s22 e22 hs22 => ?_)
  refine int' fun _ s23 e23 hs23 => mod' (by decide) fun u0 s24 e24 hs24 => ?_
  rw [← e21, ← e22, ← e23, ← e24] at S7
  refine spliced_more (int' fun u1 s25 e25 hs25 => ?_)
  rw [← e25] at S7
  refine spliced_more (ld S7 (v := .int (x % 600 / 40 % 5 - 1) to) (by rfl) ?_)
  refine spliced_more (wpAny_BinOp (ld S7 (v := .int (x % 600 / 40 % 5 - 1) to) (by rfl) (wpAny_BinOp ?_)))
  refine ld S7 (v := .int (x % 600) ty) (by rfl) (int' fun _ s26 e26 hs26 => div' (by decide) (by decide) fun _ s27 e27 hs27 => ?_)
  refine add' fun u3 s28 e28 hs28 => ?_
  rw [← e26, ← e27, ← e28] at S7
  have hS28 := (hS20.trans ((hs21.trans hs22).trans (hs23.trans hs24))).trans ((hs25.trans hs26).trans (hs27.trans hs28))
  clear hS20 hs21 hs22 hs23 hs24 hs25 hs26 hs27 hs28 e21 e22 e23 e24 e25 e26 e27 e28
  refine spliced_more (dict1E S7 fun D s29 hs29 S8 => ?_)
  refine wpAny_BinOp (wpAny_BinOp ?_)
  refine ld S8 (v := .int (x % 600) ty) (by rfl) (int' fun _ s30 e30 hs30 => div' (by decide) (by decide) fun _ s31 e31 hs31 => ?_)
  refine int' fun _ s32 e32 hs32 => mod' (by decide) fun uk s33 e33 hs33 => ?_
  refine int' fun uv s34 e34 hs34 => ?_
  rw [← e30, ← e31, ← e32, ← e33, ← e34] at S8
  refine ⟨_, uk, rfl, S8, fun I9 od s35 le9 hD hod hs35 S9 => ?_⟩
  refine spliced_none ⟨by show 5 ≤ 100; decide, wi S9 fun I10 fa s36 le10 hfa _ hs36 S10 => ?_⟩
  refine spliced_none ⟨by show 2 ≤ 100; decide, wi S10 fun I11 ca s37 le11 hca _ hs37 S11 => ?_⟩
  refine hQ0 _ _ <| leave' (R := fun I' v => isCall prog w I' v (clOf x)) S11 (hS28.trans ((hs29.trans (hs30.trans hs31)).trans ((hs32.trans (hs33.trans hs34)).trans (hs35.trans (hs36.trans hs37))))) ?_
  exact ⟨ca, 0, tn, fa, 0, u0, u1, to, u3, D, od, uv, rfl, hca, le11 _ _ hfa, (le10.trans le11) _ _ hD, hod⟩
end
end Mine

-- part LLam
set_option maxRecDepth 100000
set_option maxHeartbeats 0
set_option pp.deepTerms false
set_option pp.maxSteps 2500
namespace Mine
open PySem PySem.W PySem.W.X PyProof.Rows PySem.Calls
theorem frz_grow93 {P : Params} {I : Kn} {h h' : Heap} (k : Ok P I h) (keep : ∀ b o, b ≠ 93 → h.get? b = some o → h'.get? b = some o) (tab : Tab (frz I h h') h') : Grow h I h' (frz I h h') where
  keep := keep
  le := frz_le
  inh := fun b o e => by
    rcases frz_cases e with e | ⟨_, e⟩
    · exact keep _ _ (fun q => by rw [q, k.t93] at e; cases e) (k.inh _ _ e)
    · exact e
  new := fun b o e => (frz_cases e).imp id (·.1)
  tab := tab
-- what is known but for one object
noncomputable def cut (I : Kn) (a : Addr) : Kn := fun b => if b = a then none else I b
theorem cut_self (I : Kn) (a : Addr) : cut I a a = none := if_pos rfl
theorem cut_ne {I : Kn} {a b : Addr} (h : b ≠ a) : cut I a b = I b := if_neg h
theorem cut_le {I : Kn} {a b : Addr} {o : Obj} (h : cut I a b = some o) : I b = some o ∧ b ≠ a := by
  unfold cut at h
  split at h
  · cases h
  · exact ⟨h, by assumption⟩
section
variable {P : Params} {X : List Addr} {h₀ h h' : Heap} {I₀ I I' : Kn} {L : Addr} {m m' : Str → Option Value} {mu mu' : List (Addr × Obj)}
-- what had been frozen may turn again
theorem St.thaw {a : Addr} {v : Option Value} (S : St P X h₀ I₀ I L m ((a, cellO v) :: mu) h) (S' : St P X h₀ I₀ I' L m' mu' h') (l : Mine.le (put I a (cellO v)) I') (hm : a ∉ mu'.map (·.1)) :
    St P X h₀ I₀ (cut I' a) L m' ((a, cellO v) :: mu') h' ∧ Mine.le I (cut I' a) := by
  have q := S.own _ (.head _)
  have ne : ∀ b o, I b = some o → b ≠ a := fun b o e z => by rw [z, q.2.1] at e; cases e
  have la : Mine.le I (cut I' a) := fun b o e => by rw [cut_ne (ne b o e)]; exact l _ _ (by rw [put_ne (ne b o e)]; exact e)
  have ea : I' a = some (cellO v) := l _ _ (put_self _ _ _)
  refine ⟨{ S' with ok := ⟨fun b o e => S'.ok.inh _ _ (cut_le e).1, ?_, ?_, fun b o e h1 h2 h3 => la _ _ (S.ok.prog b o e h1 h2 h3)⟩, offL := ?_, own := ?_, nd := List.nodup_cons.mpr ⟨hm, S'.nd⟩, new := fun b o e => S'.new _ _ (cut_le e).1, le := S.le.trans la }, la⟩
  · rcases S'.ok.tab with e | ⟨ln, cl, c, vs, t, e, ⟨o, r1, r2⟩, u⟩
    · exact .inl e
    · refine .inr ⟨ln, cl, c, vs, t, e, ⟨o, ?_, r2⟩, u⟩
      rw [cut_ne fun z => by rw [z, ea] at r1; cases r1; cases r2]
      exact r1
  · unfold cut; split
    · rfl
    · exact S'.ok.t93
  · unfold cut; split
    · rfl
    · exact S'.offL
  · intro p hp
    rcases List.mem_cons.mp hp with rfl | hp
    · exact ⟨S'.ok.inh _ _ ea, cut_self _ _, q.2.2.1, q.2.2.2⟩
    · have z := S'.own p hp
      refine ⟨z.1, ?_, z.2.2⟩
      unfold cut; split
      · rfl
      · exact z.2.1
end
section
variable {prog : Program} {w : World} {A : Around} {E : Value → Shared → Prop} {s : Shared} {I : Kn}
-- a lambda's call
theorem enterX {fd : FuncData} {f : Addr} {o : Obj} {pos : List Value} {kw : List (Str × Value)} {binds : List (Str × Value)} {body : PySem.Expr} {R : Kn → Value → Prop} (mu : Addr → List (Addr × Obj))
    (k : Ok w.params I s.heap) (hr : A.depth < recursionLimit) (ho : I f = some o) (hdata : o.data = .func fd) (hcd : CodeI I fd.code fd.qualname) (hbody : fd.body = .expr body) (hbind : bindArgs fd ⟨pos, kw⟩ = pure binds)
    (hl : ∀ x ∈ binds, fd.scope.names.lookup x.1 = some .local)
    (h : ∀ L s₁, Same s s₁ → St w.params [93] s.heap I I L (fun x => binds.reverse.lookup x) (mu L) s₁.heap →
      wpAny (model prog w) (A.deeper (envF fd f L))
        (eval body (envF fd f L))
        (fun v s' => ∃ I', GrowS s I s' I' ∧ R I' v) (fun _ _ => False) s₁)
    (hmu : ∀ L, cellsM (L + 1) fd.scope.names [] = mu L := by intro _; rfl) (hco : fd.scope.isCoroutine = false := by rfl) (hgen : fd.scope.isGenerator = false := by rfl) (hk : fd.scope.kind = .function := by rfl) :
    Ends prog w A I (call (.ref f) pos kw) R s := by
  refine Ends.of_code (kla_callFunE hr (k.inh _ _ ho) hdata hco hgen hbody (hcd.rec k.inh) ?_)
  rw [hbind]
  refine wpAny_pure (newEnv_St k hk hl fun h₁ tk S => ⟨nolimit (S.ok), kla_codeExpr ?_⟩)
  rw [hmu] at S
  exact wpAny_mono (h _ { s with heap := h₁, toks := tk } ⟨_, _, rfl⟩ S) (fun _ _ x => x) fun _ _ f => f.elim
-- the lambda of _law_order is made
theorem lamMake {P : Params} {X : List Addr} {h₀ : Heap} {I₀ : Kn} {L : Addr} {m : Str → Option Value} {mu : List (Addr × Obj)} {env : Env} {params : Arguments} {body : PySem.Expr} {scope : Scope} {pos : Pos} {cell : Addr} {Q : Value → Shared → Prop}
    (S : St P X h₀ I₀ I L m mu s.heap) (hcl : closureFor scope env = pure [(Str.ofString "index", cell)]) (hg : env.globals = mainGlobals) (hq : env.qual ++ "<lambda>" = lamQual) (hcode : env.code = .ref 97) (hdef : defaultsOf params env = ([], [])) (hl : pos.line = 98) (hc : pos.col = 38)
    (h : ∀ f c' pm ctv I' s', Same s s' → Grow s.heap I s'.heap I' → I' f = some (kla_obj "<lambda>" lamQual params body scope [(Str.ofString "index", cell)] pm c' ctv) → CodeI I' (.ref c') lamQual → Q (.ref f) s') :
    wpAny (model prog w) A (eval (.Lambda params body scope pos) env) Q E s := by
  refine kla_eval hdef ?_
  rw [hq]
  have gl := globs S.ok
  have hd : CodeHd s.heap 97 93 := ⟨_, _, _, _, _, _, _, _, _, S.ok.inh _ _ (S.ok.prog 97 _ (by rfl) (by decide) (by decide) (by decide)), rfl, rfl, rfl, rfl, rfl, rfl, rfl, rfl, by decide⟩
  rcases id S.ok.tab with e | ⟨ln, cl, c, vs, t, e, ⟨o, r1, r2⟩, r3, rfl, rfl⟩
  · refine kla_makeFunction (mg := s.heap.nsMap 3) (P := 93) (ps := #[]) (c := 97) hcl hg gl.1 hcode hd e ⟨⟩ rfl (by decide) (gl.2.1 93 (by decide)) fun c' ctv h' tk hx hge hlt hrec hP => ?_
    obtain ⟨c₂, oc, vs, t, q1, q2, q3, q4⟩ := hrec
    cases q1
    have cn : s.heap.get? c' = none := Heap.get?_none_of_le hge
    have fn : s.heap.get? h'.objs.size = none := Heap.get?_none_of_le (Nat.le_trans hge (Nat.le_of_lt hlt))
    have ic := frz_new (I := I) S.ok.inh cn (Heap.get?_push_of_some (kla_obj "<lambda>" lamQual params body scope [(Str.ofString "index", cell)] ((s.heap.nsMap 3 "__name__").getD .none) c' ctv) q2)
    have i_f := frz_new (I := I) S.ok.inh fn (Heap.get?_push_size h' (o := kla_obj "<lambda>" lamQual params body scope [(Str.ofString "index", cell)] ((s.heap.nsMap 3 "__name__").getD .none) c' ctv) rfl)
    refine h _ c' _ ctv _ _ ⟨_, _, rfl⟩ (frz_grow93 S.ok (fun b o z e => Heap.get?_push_of_some _ (hx b o z e)) ?_) i_f ⟨c', oc, vs, t, rfl, ic, q3, q4⟩
    refine .inr ⟨98, 38, c', vs, t, Heap.get?_push_of_some _ ?_, ⟨oc, ic, q3⟩, q4, rfl, rfl⟩
    rw [hP, hl, hc]
    rfl
  · refine kla_makeFunctionHit (mg := s.heap.nsMap 3) (P := 93) (ps := #[.int 98 0, .int 38 0, .ref c]) (c := 97) (cv := .ref c) hcl hg gl.1 hcode hd e ?_ ?_ (gl.2.1 93 (by decide)) fun ctv h' tk hk hge => ?_
    · exact TriplesOk_snoc 98 38 (.ref c) [] ⟨⟩
    · obtain ⟨l, cc, el, ec⟩ := pos
      dsimp only at hl hc
      subst hl hc
      rfl
    · have fn : s.heap.get? h'.objs.size = none := Heap.get?_none_of_le hge
      refine h _ c _ ctv _ _ ⟨_, _, rfl⟩ (frz_grow S.ok (fun b o e => Heap.get?_push_of_some _ (hk b o e))) (frz_new S.ok.inh fn (Heap.get?_push_size h' rfl)) ⟨c, o, vs, t, rfl, frz_le _ _ r1, r2, r3⟩
end
end Mine

-- part LOrdM
set_option maxRecDepth 100000
set_option maxHeartbeats 0
namespace Mine
theorem range_map {α : Type} (l : List α) (z : α) : (List.range l.length).map (fun i => l.getD i z) = l := by
  apply List.ext_getElem
  · simp
  · intro i h1 h2
    simp [List.getD, h2]
theorem pair_get {α : Type} {B : α → α → Prop} {l : List α} (z : α) (h : l.Pairwise B) {i j : Nat} (hij : i < j) (hj : j < l.length) : B (l.getD i z) (l.getD j z) := by
  have hi : i < l.length := Nat.lt_trans hij hj
  have := List.pairwise_iff_getElem.mp h i j hi hj hij
  simpa [List.getD, hi, hj] using this
theorem sortStep {k : Nat × Int} (hk : k.2 ≠ 0) {l : List Row} {z : Row} {qs : List Nat} (h : SortedIdx (decide (k.2 < 0)) l.length (fun i j => colLt k.1 (l.getD i z) (l.getD j z)) qs) : SortStep k l (qs.map fun i => l.getD i z) := by
  obtain ⟨hp, hw⟩ := h
  refine ⟨?_, fun B hB => ?_⟩
  · have := hp.map (fun i => l.getD i z)
    rwa [range_map] at this
  · rw [List.pairwise_map]
    have mem : ∀ i ∈ qs, i < l.length := fun i hi => List.mem_range.mp (hp.mem_iff.mp hi)
    refine List.Pairwise.imp_of_mem ?_ hw
    intro x y hx hy hxy
    obtain ⟨i, d⟩ := k
    have asx := colLt_asymm i (l.getD x z) (l.getD y z)
    have asy := colLt_asymm i (l.getD y z) (l.getD x z)
    simp only [cmpK]
    by_cases hd : d < 0
    · simp only [hd, decide_true, if_true] at hxy
      rcases hxy with h1 | ⟨h1, h2⟩
      · left; rw [asy h1, h1]; simp; omega
      · rw [h1]
        by_cases h3 : colLt i (l.getD y z) (l.getD x z) = true
        · left; rw [h3]; simp; omega
        · right; simp only [Bool.not_eq_true] at h3; rw [h3]; exact ⟨by simp, pair_get z hB h2 (mem y hy)⟩
    · simp only [hd, decide_false, Bool.false_eq_true, if_false] at hxy
      have hd' : 0 < d := by dsimp only at hk; omega
      rcases hxy with h1 | ⟨h1, h2⟩
      · left; rw [h1]; simp; omega
      · rw [h1]
        by_cases h3 : colLt i (l.getD x z) (l.getD y z) = true
        · left; rw [h3]; simp; omega
        · right; simp only [Bool.not_eq_true] at h3; rw [h3]; exact ⟨by simp, pair_get z hB h2 (mem y hy)⟩
end Mine

-- part LOrdA
set_option maxRecDepth 100000
set_option maxHeartbeats 0
set_option pp.deepTerms false
set_option pp.maxSteps 2500
namespace Mine
open PySem PySem.W PySem.W.X PyProof.Rows PySem.Calls
section
variable {P : Params} {prog : Program} {w : World} {A : Around} {E : Value → Shared → Prop} {s : Shared} {env : Env} {X : List Addr} {h₀ h h' : Heap} {I₀ I : Kn} {L : Addr} {m : Str → Option Value} {mu : List (Addr × Obj)}
-- a pair's parts: the first into the frame's cell, the second into a name
theorem assignCL {t c : Addr} {n : Nat} {u v : Value} {v₀ : Option Value} {x y : Str} {p1 p2 pos : Pos} {k1 : Nat} {Q : Unit → Shared → Prop} (hh : A.handled = none) (S : St P X h₀ I₀ I L m ((c, cellO v₀) :: mu) s.heap) (ht : s.heap.get? t = some (tupO [u, v] n)) (hc : env.cells.lookup x = some c)
    (h : ∀ s', Same s s' → St P X h₀ I₀ I L (setM m y v) ((c, cellO (some u)) :: mu) s'.heap → Q () s')
    (hk : env.scope.kind = .function := by rfl) (hx : env.kindOf x = some .cell := by rfl) (hy : env.kindOf y = some .local := by rfl) (hL : env.locals = L := by rfl) :
    wpAny (model prog w) A (assign (.Tuple [.Name x p1, .Name y p2] k1 pos) env (.ref t)) Q E s := by
  refine wpAny_assign_Tuple hh ⟨_, ht, rfl, _, rfl⟩ rfl rfl fun h' he => ?_
  have S1 := S.silent (size_silent he)
  show wpAny _ _ (do holding [v] (assign (.Name x p1) env u); do holding [] (assign (.Name y p2) env v); pure ()) _ _ _
  refine wpAny_bind (wpAny_holding (wpAny_assign_Name (stCell S1 hc (fun h₂ S2 => ?_) hk hx)))
  refine wpAny_bind (wpAny_holding (wpAny_assign_Name (st S2 (fun h₃ tk S3 => wpAny_pure ?_) hk hy hL)))
  exact h _ ⟨_, _, rfl⟩ S3
-- a column of two rows, as the sort looks at it
theorem ltCol {i : Nat} {a b : Row} {u v : Value} (hu : isCol i a u) (hv : isCol i b v) (k : Ok P I s.heap) : Ends prog w A I (keyLt' oneType' u v) (fun _ r => r = colLt i a b) s := by
  have g : ∃ I', GrowS s I s I' ∧ colLt i a b = colLt i a b := ⟨I, GrowS.refl k, rfl⟩
  match i with
  | 0 => obtain ⟨_, rfl⟩ := hu; obtain ⟨_, rfl⟩ := hv; exact kat_lt_int g
  | 1 => obtain ⟨_, rfl⟩ := hu; obtain ⟨_, rfl⟩ := hv; exact kat_lt_int g
  | 2 => obtain ⟨_, rfl⟩ := hu; obtain ⟨_, rfl⟩ := hv; exact kat_lt_int g
  | 3 => obtain ⟨_, rfl⟩ := hu; obtain ⟨_, rfl⟩ := hv; exact kat_lt_int g
  | _ + 4 => obtain ⟨_, rfl⟩ := hu; obtain ⟨_, rfl⟩ := hv; exact kas_lt_str g
theorem colLook {M : Model} {i : Nat} {a : Row} {u : Value} (hu : isCol i a u) : Looks M h (typeOf u) (colT i) := by
  match i with
  | 0 => obtain ⟨_, rfl⟩ := hu; exact Looks.of_pure rfl
  | 1 => obtain ⟨_, rfl⟩ := hu; exact Looks.of_pure rfl
  | 2 => obtain ⟨_, rfl⟩ := hu; exact Looks.of_pure rfl
  | 3 => obtain ⟨_, rfl⟩ := hu; exact Looks.of_pure rfl
  | _ + 4 => obtain ⟨_, rfl⟩ := hu; exact Looks.of_pure rfl
end
end Mine

-- part LOrder
set_option maxRecDepth 100000
set_option maxHeartbeats 0
set_option pp.deepTerms false
set_option pp.maxSteps 2500
namespace Mine
open PySem PySem.W PySem.W.X PyProof.Rows PySem.Calls
theorem All2.of_map {α β γ : Type} {R : α → β → Prop} {f : γ → α} {g : γ → β} : ∀ {l : List γ}, (∀ i ∈ l, R (f i) (g i)) → All2 R (l.map f) (l.map g)
  | [], _ => .nil
  | i :: l, h => .cons (h i (.head _)) (All2.of_map fun j hj => h j (.tail _ hj))
theorem All2.getD {α β : Type} {R : α → β → Prop} {as : List α} {bs : List β} (h : All2 R as bs) {i : Nat} (hi : i < bs.length) (x : α) (y : β) : R (as.getD i x) (bs.getD i y) := by
  have hl := h.length
  have e : as[i]? = some (as.getD i x) := by rw [List.getElem?_eq_getElem (by omega)]; simp [List.getD, (by omega : i < as.length)]
  obtain ⟨b, hb, hr⟩ := h.get e
  rw [List.getElem?_eq_getElem hi] at hb
  cases hb
  simpa [List.getD, hi] using hr
section
variable {prog : Program} {w : World} {A : Around} {E : Value → Shared → Prop} {s : Shared} {I : Kn}
theorem Call_NameK {M : Model} {env : Env} {x : Str} {p pos : Pos} {args : List PySem.Expr} {kws : List Keyword} {Q : Value → Shared → Prop}
    (h : wpAny M A (eval (.Name x p) env) (fun f s₁ => wpAny M A (callWith pos f [] (backTo pos (starEach args env)) (backToKw pos (keywordEach kws env))) Q E s₁) E s) :
    wpAny M A (eval (.Call (.Name x p) args kws pos) env) Q E s := wpAny_bind h
theorem neg' {a : Int} {t : Tok} {Q : Value → Shared → Prop} (h : NI Q s (-a)) : wpAny (model prog w) A (unaryOp .USub (.int a t)) Q E s := PyProof.Rows.neg_int (h _ _ rfl ⟨_, _, rfl⟩)
theorem orderW {Rv kv : Value} {rows : List Row} {keys : List (Nat × Int)} (k : Ok w.params I s.heap) (r : Room A 60) (hR : isRows prog w I Rv rows) (hK : isKeys I kv keys) (hk : ∀ k ∈ keys, KeyOk k) (hd : ∀ k ∈ keys, k.2 ≠ 0) (h5 : rows.length ≤ 5) (hkl : keys.length ≤ 10) :
    Ends prog w A I (call (.ref 98) [Rv, kv]) (fun I' v => ∃ q, isRows prog w I' v q ∧ Ordered keys rows q) s := by
  obtain ⟨Ra, Rn, Rvs, rfl, hRa, hRv⟩ := hR
  obtain ⟨Ka, Kn', Kvs, rfl, hKa, hKv⟩ := hK
  refine enter' (fd := _) (binds := [("rows", .ref Ra), ("keys", .ref Ka)]) (fun L => [(L + 1, cellO none)]) k r.lim (k.prog 98 _ (by rfl) (by decide) (by decide) (by decide)) (by rfl) ⟨97, _, _, _, by rfl, k.prog 97 _ (by rfl) (by decide) (by decide) (by decide), by rfl, by rfl⟩ (by rfl) (by rfl) (locs (by rfl)) (fun L s1 hs1 S => ?_)
  refine genQ fun Q0 hQ0 => ?_
  refine wpAny_execs_cons (wpAny_Assign_Name (Call_Name rfl (ldB S.ok (v := .type "list") (by kernel_rfl!) (by kernel_rfl!) ?_)))
  refine callN (I := I) keep_t (spliced_more (ld S (v := .ref Ra) (by rfl) (spliced_none ⟨S.ok.inh, ?_⟩)))
  refine call_list_seq Ra (.inl rfl) (S.ok.inh _ _ hRa) rfl rfl (fun h' c' hkp hnew => ?_) (by rw [List.size_toArray, sizeLine_eq, hRv.length]; omega)
  -- the copy stays
  have S1 : St w.params [93] s.heap I I L _ _ h' := S.silent hkp
  have fresh : s1.heap.get? s1.heap.objs.size = none := get_size_none _
  have hI0 : I s1.heap.objs.size = none := push_none S.ok.inh
  have hs0 : s.heap.get? s1.heap.objs.size = none := by
    cases e : s.heap.get? s1.heap.objs.size with
    | none => rfl
    | some o =>
      by_cases z : s1.heap.objs.size = 93
      · obtain ⟨o', e'⟩ := tab_there S.ok.tab; rw [z, e'] at fresh; cases fresh
      · rw [S.base _ _ (by simpa using z) e] at fresh; cases fresh
  have nL : s1.heap.objs.size ≠ L := fun e => Nat.lt_irrefl _ (by have := S.ns.lt; rw [← e] at this; exact this)
  have nm : s1.heap.objs.size ∉ ([(L + 1, cellO none)] : List (Addr × Obj)).map (·.1) := fun e => by
    have := (S.own _ (.head _)).1
    rw [List.map_cons, List.map_nil, List.mem_singleton] at e
    dsimp only at this e
    rw [← e, fresh] at this; cases this
  have S2 := (S1.adopt hnew hI0 nL hs0 nm).freeze
  generalize hO : s1.heap.objs.size = O at S2 nL nm hs0 hI0
  have le2 := le_put (o := listO Rvs c') hI0
  generalize hI2 : put I O (listO Rvs c') = I2 at le2
  have hOl : I2 O = some (listO Rvs c') := by rw [← hI2]; exact put_self _ _ _
  have S2' : St w.params [93] s.heap I I2 L _ [(L + 1, cellO none)] h' := hI2 ▸ S2
  refine st' (s := { s1 with heap := h' }) S2' fun s3 hs3 S3 => ?_
  have hS3 : Same s s3 := hs1.trans (Same.trans ⟨_, _, rfl⟩ hs3)
  refine wpAny_execs_cons (wpAny_For (slice3E (ld S3 (v := .ref Ka) (by rfl) (wpAny_evalPart_none (wpAny_evalPart_none (wpAny_UnaryOp (int' fun t1 s4 e4 hs4 => neg' fun t2 s4' e4' hs4' => ?_)))))))
  have S4 := S3
  rw [← e4, ← e4'] at S4
  refine ⟨Ka, none, none, some (-1), rfl, .none, .none, .int _ _, by decide, wil S4 (le2 _ _ hKa) (by rw [hKv.length]; omega) fun ws hw I5 ka s5 le5 hka _ hs5 S5 => ?_⟩
  rw [krv_pick] at hw
  have ew : Kvs.reverse = ws := by simpa using congrArg Array.toList hw
  subst ew
  have hS5 : Same s s5 := hS3.trans (hs4.trans (hs4'.trans hs5))
  have hKv5 : All2 (isKey I5) Kvs.reverse keys.reverse := (hKv.imp fun _ _ q => q.mono (le2.trans le5)).reverse
  refine for_list (A := A.deeper _) (Q := _) (I := I5) (by exact r.hd) hka S5 (.inr ⟨_, _, _, rfl, ?hT⟩)
    (fun i I₁ m₁ mu₁ => ∃ ov O q vs n, mu₁ = [(L + 1, cellO ov)] ∧ m₁ (Str.ofString "ordered") = some (.ref O) ∧ I₁ O = some (listO vs n) ∧ All2 (isRow prog w I₁) vs q ∧ Ordered (keys.drop (keys.length - i)) rows q)
    ⟨none, O, rows, Rvs, c', rfl, rfl, le5 _ _ hOl, hRv.imp fun _ _ q => q.mono (le2.trans le5), by rw [Nat.sub_zero, List.drop_length]; exact ordered_nil rows⟩ ?_ ?_
  case hT =>
    intro v hv
    obtain ⟨j, hj⟩ := List.getElem?_of_mem hv
    obtain ⟨_, _, ⟨a, n, t, u, rfl, _⟩⟩ := hKv5.get hj
    exact ⟨a, rfl⟩
  · rintro i v I₁ m₁ mu₁ s₁ it oit hv hle ⟨ov, O', q, vs, n, rfl, m1, hO', hq, ho⟩ S6 hs6
    refine genT fun Q1 hQ1 => ?_
    obtain ⟨kk, hkk, ⟨ta, tn, tt, tu, rfl, hta⟩⟩ := hKv5.get hv
    refine assignCL (A := A.deeper _) r.hd S6.swap (S6.ok.inh _ _ (hle _ _ hta)) (by rfl) fun s7 hs7 S7 => ?_
    refine wpAny_execs_cons (wpAny_Assign_Name (Call_NameK (ldB S7.ok (v := .builtin "sorted") (by kernel_rfl!) (by kernel_rfl!) ?_)))
    refine callWith_of (P := InH I₁) (by rfl) keep_b ?_
    refine evalArgs_kw2 (by rfl) ?_
    refine spliced_more (ld S7 (v := .ref O') (by exact m1) (spliced_none ?_))
    refine kwAll_cons ?_
    refine lamMake (cell := L + 1) S7 (by rfl) (by rfl) (by rfl) (by rfl) (by rfl) (by rfl) (by rfl) fun f c'' pm ctv I8 s8 hs8 g8 hf hcd => ?_
    have S8 := S7.grow g8
    refine kwAll_cons (wpAny_Compare1 (ld S8 (v := .int kk.2 tu) (by rfl) (int' fun _ s9 e9 hs9 => PyProof.Rows.lt_int ?_)))
    rw [← e9] at S8
    refine kwAll_nil ⟨fun b o e => S8.ok.inh _ _ (g8.le _ _ e), ?_⟩
    have S9 := S8.freeze
    have le9 := le_put (o := cellO (some (.int (kk.1 : Int) tt))) (S8.own _ (.head _)).2.1
    have hkm : kk ∈ keys := List.mem_reverse.mp (List.mem_of_getElem? hkk)
    have hvl : vs.length = q.length := hq.length
    have hql : q.length ≤ 5 := by rw [ho.1.length_eq]; exact h5
    have hq9 : All2 (isRow prog w (put I8 (L + 1) (cellO (some (.int (kk.1 : Int) tt))))) vs q := hq.imp fun _ _ x => x.mono (g8.le.trans le9)
    refine sortedSt (A := A.deeper _) (q := f) (b := decide (kk.2 < 0)) (T := colT kk.1) (KV := fun _ kv j => isCol kk.1 (q.getD j (zeroRow "")) kv) (lt := fun i j => colLt kk.1 (q.getD i (zeroRow "")) (q.getD j (zeroRow ""))) S9 ((g8.le.trans le9) _ _ hO') (by omega) ?_ (fun _ _ _ _ h _ => h) (fun _ _ _ _ h _ => colLook h) ?_ ?_ ?_ (fun _ _ _ _ => colLt_asymm _ _ _) ?_ ?_
    · intro j v s₁ I₂ hv le2' ok2 sm2
      obtain ⟨rr, hrr, hrow⟩ := hq9.get hv
      obtain ⟨ra, rn, u0, u1, u2, u3, d, u5, rfl, hra, hcal⟩ := hrow
      have hgd : q.getD j (zeroRow "") = rr := by simp [List.getD, hrr]
      rw [hgd]
      refine enterX (fd := _) (binds := [("row", .ref ra)]) (fun _ => []) ok2 (Room.lim (n := 10) (Room.in1 (Room.in1 (Room.deeper (r.mono (by decide)))))) (le2' _ _ (le9 _ _ hf)) rfl ?_ rfl (by rfl) (locs (by rfl)) (fun L' s2 hs2 S' => ?_)
      · obtain ⟨c3, o3, vs3, t3, e1, e2, e3⟩ := hcd
        exact ⟨c3, o3, vs3, t3, e1, le2' _ _ (le9 _ _ e2), e3⟩
      · refine Subscript_ (ld S' (v := .ref ra) (by rfl) (ldCell (by rfl) (S'.ok.inh _ _ (le2' _ _ (put_self _ _ _))) ?_))
        have hgo : ∀ kv, isCol kk.1 rr kv → ∃ I', GrowS s₁ I₂ s2 I' ∧ isCol kk.1 rr kv := fun kv h => leave' (R := fun _ kv => isCol kk.1 rr kv) S' hs2 h
        exact colItem (hk _ hkm) (S'.ok.inh _ _ (le2' _ _ hra)) hgo
    · unfold colT; split <;> rfl
    · unfold colT; split <;> rfl
    · exact fun i j ki kj s₁ I₂ _ _ h1 h2 _ ok _ => ltCol h1 h2 ok
    · intro i j k' _ _ _ h1
      by_cases h2 : colLt kk.1 (q.getD j (zeroRow "")) (q.getD k' (zeroRow "")) = true
      · exact .inr h2
      · exact .inl (colLt_left _ _ _ _ h1 (by simpa using h2))
    · intro D h' tk I' c3 qs le' hsi S10
      have hD := S10.own _ (.head _)
      have hcI : I' (L + 1) = some (cellO (some (.int (kk.1 : Int) tt))) := le' _ _ (put_self _ _ _)
      have nd8 := S8.nd
      obtain ⟨S11, le11⟩ := S8.thaw S10 le' (by
        intro hm
        simp only [List.map_cons, List.map_nil, List.mem_cons, List.not_mem_nil, or_false] at hm
        rcases hm with hm | hm
        · have z := hD.2.1; dsimp only at z; rw [← hm, hcI] at z; cases z
        · simp only [List.map_cons, List.map_nil, List.nodup_cons, List.mem_singleton] at nd8
          exact nd8.1 hm)
      have S12 := S11.swap.freeze
      have le12 := le_put (o := lsO (qs.map fun i => vs.getD i Value.none).toArray c3) (S11.swap.own _ (.head _)).2.1
      refine st' (s := { s9 with heap := h', toks := tk }) S12 fun s13 hs13 S13 => wpAny_execs_nil (hQ1 _ _ ?_)
      have lall : le I₁ (put (cut I' (L + 1)) D (lsO (qs.map fun i => vs.getD i Value.none).toArray c3)) := g8.le.trans (le11.trans le12)
      refine ⟨_, _, [(L + 1, cellO (some (.int (kk.1 : Int) tt)))], ((hs6.trans hs7).trans (hs8.trans hs9)).trans (Same.trans ⟨_, _, rfl⟩ hs13), lall, ?_, S13.swap⟩
      refine ⟨_, D, qs.map fun i => q.getD i (zeroRow ""), qs.map fun i => vs.getD i Value.none, c3, rfl, rfl, put_self _ _ _, ?_, ?_⟩
      · refine All2.of_map fun i hi => ?_
        have : i < q.length := by rw [← hvl]; exact List.mem_range.mp (hsi.1.mem_iff.mp hi)
        exact (hq.getD this Value.none (zeroRow "")).mono lall
      · rw [hvl] at hsi
        have hi : i < keys.length := by
          have := (List.getElem?_eq_some_iff.mp hkk).1
          rwa [List.length_reverse] at this
        have hkd : keys.drop (keys.length - (i + 1)) = kk :: keys.drop (keys.length - i) := by
          have e : keys[keys.length - (i + 1)]? = some kk := by
            rw [List.getElem?_reverse hi] at hkk
            rw [← hkk, show keys.length - 1 - i = keys.length - (i + 1) by omega]
          have hlt : keys.length - (i + 1) < keys.length := by omega
          rw [List.drop_eq_getElem_cons hlt]
          rw [List.getElem?_eq_getElem hlt] at e
          cases e
          congr 2
          omega
        rw [hkd]
        exact ordered_cons (hd _ hkm) ho (sortStep (hd _ hkm) hsi)
  · rintro I₁ m₁ mu₁ s₁ hle ⟨ov, O', q, vs, n, rfl, m1, hO', hq, ho⟩ S6 hs6
    refine wpAny_execs_cons (wpAny_Return_some (ld S6 (by exact m1) ?_))
    refine hQ0 _ _ <| leave' (R := fun I' v => ∃ q, isRows prog w I' v q ∧ Ordered keys rows q) S6 (hS5.trans hs6) ⟨q, ⟨O', n, vs, rfl, hO', hq⟩, ?_⟩
    have e : Kvs.reverse.length = keys.length := by rw [List.length_reverse, hKv.length]
    rw [e, Nat.sub_self, List.drop_zero] at ho
    exact ho
end
end Mine

-- part LDueA
set_option maxRecDepth 100000
set_option maxHeartbeats 0
set_option pp.deepTerms false
set_option pp.maxSteps 2500
namespace Mine
open PySem PySem.W PySem.W.X PyProof.Rows PySem.Calls
section
variable {P : Params} {prog : Program} {w : World} {A : Around} {E : Value → Shared → Prop} {s : Shared} {env : Env} {X : List Addr} {h₀ h : Heap} {I₀ I : Kn} {L : Addr} {m : Str → Option Value} {mu : List (Addr × Obj)} {Q : Value → Shared → Prop}
theorem St.perm {mu' : List (Addr × Obj)} (S : St P X h₀ I₀ I L m mu h) (p : mu.Perm mu') : St P X h₀ I₀ I L m mu' h :=
  S.sub (fun _ hx => p.mem_iff.mpr hx) ((p.map (·.1)).nodup_iff.mp S.nd)
-- one of the frame's own things comes to the front
theorem St.front {p : Addr × Obj} {l2 : List (Addr × Obj)} (l1 : List (Addr × Obj)) (S : St P X h₀ I₀ I L m (l1 ++ p :: l2) h) : St P X h₀ I₀ I L m (p :: (l1 ++ l2)) h := S.perm List.perm_middle
theorem St.back {p : Addr × Obj} {l2 : List (Addr × Obj)} (l1 : List (Addr × Obj)) (S : St P X h₀ I₀ I L m (p :: (l1 ++ l2)) h) : St P X h₀ I₀ I L m (l1 ++ p :: l2) h := S.perm List.perm_middle.symm
-- [] that may turn
theorem listM {pos : Pos} (S : St P X h₀ I₀ I L m mu s.heap) (h : ∀ D s', Same s s' → St P X h₀ I₀ I L m ((D, listO [] 0) :: mu) s'.heap → Q (.ref D) s') : wpAny (model prog w) A (eval (.List [] pos) env) Q E s :=
  wpAny_List (spliced_none ⟨by show 0 ≤ sizeLine; exact Nat.zero_le _, h _ { s with heap := s.heap.push (listO [] 0) } ⟨_, _, rfl⟩ (S.push rfl)⟩)
-- {} that may turn
theorem dictM {pos : Pos} (S : St P X h₀ I₀ I L m mu s.heap) (h : ∀ D s', Same s s' → St P X h₀ I₀ I L m ((D, { cls := .type "dict", data := .dict #[] }) :: mu) s'.heap → Q (.ref D) s') : wpAny (model prog w) A (eval (.Dict [] [] pos) env) Q E s :=
  wpAny_Dict_empty (h _ { s with heap := s.heap.push { cls := .type "dict", data := .dict #[] } } ⟨_, _, rfl⟩ (S.push rfl))
-- x.append(elt)
theorem appSt {elt : PySem.Expr} {x : Str} {px apos pos spos : Pos} {D : Addr} {its : Array Value} {Q : Flow → Shared → Prop} (S : St P X h₀ I₀ I L m mu s.heap) (hx : m x = some (.ref D)) (hD : PlainL s.heap D its)
    (h : wpAny (model prog w) A (eval elt env) (fun y s₂ => ∃ I₂ m₂ mu₂ ys n, St P X h₀ I₀ I₂ L m₂ ((D, listO ys n) :: mu₂) s₂.heap ∧ ys.length ≤ 1000 ∧ ∀ s' n', Same s₂ s' → St P X h₀ I₀ I₂ L m₂ ((D, listO (ys ++ [y]) n') :: mu₂) s'.heap → Q .next s') E s)
    (hbase : attributeBase (.Name x px) "append" env (eval (.Name x px) env) = eval (.Name x px) env := by rfl)
    (hfew : ((backTo pos (starEach [elt] env)).all (fun x => !x.1) && (backToKw pos (keywordEach [] env)).all (fun x => x.1.isSome)
      && decide (([elt] : List PySem.Expr).length + ([] : List Keyword).length + (if ([] : List Keyword).isEmpty then 0 else 1) < 30)) = true := by rfl)
    (hline : (apos.endLine == pos.line) = true := by rfl)
    (htrees : backTo pos (starEach [elt] env) = [(false, eval elt env)] := by rfl)
    (hi : interactive env = false := by rfl) (hsw : swapsWith (.Call (.Attribute (.Name x px) "append" apos) [elt] [] pos) none spos.line env = pure false := by rfl)
    (hk : env.scope.kind = .function := by rfl) (hl : env.kindOf x = some .local := by rfl) (hL : env.locals = L := by rfl) (hd : (x == ("__debug__" : Str)) = false := by decide) :
    wpAny (model prog w) A (exec (.Expr (.Call (.Attribute (.Name x px) "append" apos) [elt] [] pos) spos) env) Q E s := by
  refine wpAny_Expr_any (wpAny_Call_append hbase hfew hline htrees (ld S hx ⟨D, its, rfl, hD, wpAny_mono h (fun y s₂ h₂ => ?_) fun _ _ e => e⟩ hk hl hL hd)) hi hsw
  obtain ⟨I₂, m₂, mu₂, ys, n, S₂, hz, hq⟩ := h₂
  refine append_at (hsz := by rw [List.size_toArray, sizeLine_eq]; omega) (S₂.own _ (.head _)).1 fun h' hs ho' => ?_
  have e : ys.toArray.push y = (ys ++ [y]).toArray := by simp
  rw [e] at ho'
  exact hq _ _ ⟨_, _, rfl⟩ (S₂.upd hs ho')
theorem sum_map {α : Type} {f : α → Int} {R : Value → α → Prop} (hR : ∀ v c, R v c → ∃ t, v = .int (f c) t) {vs : List Value} {xs : List α} (h : All2 R vs xs) : IntsAre vs (xs.map f) := by
  induction h with
  | nil => exact .nil
  | cons x _ ih =>
    obtain ⟨t, rfl⟩ := hR _ _ x
    exact .cons _ t ih
-- sum(l)
theorem sumSt {l : Addr} {vs : List Value} {ns : List Int} {n : Nat} (hh : A.handled = none) (S : St P X h₀ I₀ I L m mu s.heap) (hl : I l = some (listO vs n)) (hi : IntsAre vs ns)
    (h : ∀ t s', Same s s' → St P X h₀ I₀ I L m mu s'.heap → Q (.int ns.sum t) s') : wpAny (model prog w) A (call (.builtin "sum") [.ref l]) Q E s := by
  obtain ⟨xs, ex⟩ := hi.allInts.items
  have en : numsOf vs = ns := hi.numsOf
  have hl' : s.heap.IsList l (intItems xs) := ⟨_, S.ok.inh _ _ hl, rfl, n, by rw [← ex]⟩
  refine sum_intListG hh hl' fun h' tk t' hk => ?_
  have e2 : preSum (numAt xs) xs.size = ns.sum := by
    rw [← en, preSum_eq, List.take_of_length_le (by simp), ← nums_intItems]
    congr 1
    have : (intItems xs).toList = vs := by rw [← ex]
    rw [this]
  rw [e2]
  exact h t' _ ⟨_, _, rfl⟩ (S.silent hk)
end
end Mine

-- part LLoop
set_option maxRecDepth 100000
set_option maxHeartbeats 0
set_option pp.deepTerms false
set_option pp.maxSteps 2500
namespace Mine
open PySem PySem.W PySem.W.X PyProof.Rows PySem.Calls
noncomputable abbrev rngO (x left : Int) : Obj := { cls := .type "range_iterator", dict := none, data := .fields #[rawInt x, rawInt left, rawInt 1], slots := #[] }
section
variable {P : Params} {prog : Program} {w : World} {A : Around} {E : Value → Shared → Prop} {s : Shared} {env : Env} {X : List Addr} {h₀ : Heap} {I₀ I : Kn} {L : Addr} {m : Str → Option Value} {mu : List (Addr × Obj)}
-- a loop over range(a, b)
theorem for_range {target : PySem.Expr} {body : List Stmt} {r : Addr} {n : Nat} {a b : Int} {t u v : Tok} {Q : Flow → Shared → Prop} (hh : A.handled = none) (S : St P X h₀ I₀ I L m mu s.heap)
    (hr : IsRange s.heap r a b 1 t u v) (hn : Builtin.Range.rangeSize a b 1 = n) (hsm : Builtin.Range.small a b 1 = true) (hT : ∀ it v, letOwnedTupleGo target it v = pure ())
    (J : Nat → Kn → (Str → Option Value) → List (Addr × Obj) → Prop) (h0 : J 0 I m mu)
    (turn : ∀ i t I₁ m₁ mu₁ s₁ it oit, i < n → le I I₁ → J i I₁ m₁ mu₁ → St P X h₀ I₀ I₁ L m₁ ((it, oit) :: mu₁) s₁.heap → Same s s₁ →
      wpAny (model prog w) A (assign target env (.int (a + (i : Int)) t)) (fun _ s₂ => wpAny (model prog w) A (execs body env) (fun f s₃ => match f with
        | .next | .cont => ∃ I₂ m₂ mu₂, Same s s₃ ∧ le I₁ I₂ ∧ J (i + 1) I₂ m₂ mu₂ ∧ St P X h₀ I₀ I₂ L m₂ ((it, oit) :: mu₂) s₃.heap
        | .brk => Q .next s₃
        | .ret v => Q (.ret v) s₃) NoE s₂) NoE s₁)
    (done : ∀ I₁ m₁ mu₁ s₁, le I I₁ → J n I₁ m₁ mu₁ → St P X h₀ I₀ I₁ L m₁ mu₁ s₁.heap → Same s s₁ → Q .next s₁) :
    wpAny (model prog w) A (pyIter (.ref r)) (fun it s₂ => codeAny (model prog w) A (.forLoop target it body [] env) (fun r s' => match r with | .ok f => Q f s' | .error e => cameBackBy (model prog w) A env E e s') s₂) E s := by
  refine wpAny_pyIter_range hr hsm ?_
  rw [hn]
  have S1 := S.push (o := rngO a n) rfl
  generalize hT' : s.heap.objs.size = it at S1 ⊢
  refine forLoop_F (fun k s' => ∃ i I₁ m₁ mu₁, Same s s' ∧ i ≤ n ∧ k = n + 1 - i ∧ le I I₁ ∧ J i I₁ m₁ mu₁ ∧ St P X h₀ I₀ I₁ L m₁ ((it, rngO (a + (i : Int)) ((n : Int) - (i : Int))) :: mu₁) s'.heap) ?_ (n + 1)
    ⟨0, I, m, mu, Same.mk, Nat.zero_le _, rfl, le.refl _, h0, by simpa using S1⟩
  rintro k s' ⟨i, I₁, m₁, mu₁, hs, hi, rfl, hle, hJ, S'⟩
  have q := S'.own _ (.head _)
  have nm : it ∉ mu₁.map (·.1) := (List.nodup_cons.mp S'.nd).1
  by_cases hlt : i < n
  · refine wpAny_pyNext_range_item q.1 (by omega) fun h' hit' hs' => ?_
    have e1 : a + (i : Int) + 1 = a + ((i + 1 : Nat) : Int) := by push_cast; omega
    have e2 : (n : Int) - (i : Int) - 1 = (n : Int) - ((i + 1 : Nat) : Int) := by push_cast; omega
    rw [e1, e2] at hit'
    have S2 := S'.upd hs' hit'
    dsimp only
    rw [hT]
    refine wpAny_pure ?_
    refine wpAny_mono (turn i s'.toks I₁ m₁ mu₁ { s' with heap := h', toks := s'.toks + 1 } _ _ hlt hle hJ S2 hs.both) (fun _ s₂ h₂ => wpAny_mono h₂ (fun f s₃ h₃ => ?_) fun _ _ f => f) fun _ _ f => f
    cases f with
    | next =>
      obtain ⟨I₂, m₂, mu₂, a', b', c', d'⟩ := h₃
      exact ⟨n + 1 - (i + 1), by omega, i + 1, I₂, m₂, mu₂, a', hlt, rfl, hle.trans b', c', d'⟩
    | cont =>
      obtain ⟨I₂, m₂, mu₂, a', b', c', d'⟩ := h₃
      exact ⟨n + 1 - (i + 1), by omega, i + 1, I₂, m₂, mu₂, a', hlt, rfl, hle.trans b', c', d'⟩
    | brk => exact h₃
    | ret v => exact h₃
  · have e : i = n := by omega
    subst e
    refine wpAny_pyNext_range_end hh q.1 (by omega) fun h' he => ?_
    exact done I₁ m₁ mu₁ { s' with heap := h' } hle hJ (S'.drop.offX (fun b o n e => he b o n e) q.2.1 q.2.2.1 q.2.2.2 nm) hs.heap
end
section
variable {prog : Program} {w : World} {A : Around} {E : Value → Shared → Prop} {s : Shared} {I : Kn} {env : Env}
-- [elt for x in l if test], item by item
theorem comp_gen {α : Type} {R R' : Kn → Value → α → Prop} {elt iter : PySem.Expr} {ifs : List PySem.Expr} {x : Str} {px : Pos} {scope : Scope} {cl : List (Str × Addr)} {pos : Pos} {use : Option (Value → Sem Unit)} {Q : Value → Shared → Prop} {l : Addr} {vs : List Value} {xs : List α} {ep : Nat} (p : α → Bool)
    (mono : ∀ I J v y, R I v y → le I J → R J v y) (mono' : ∀ I J v y, R' I v y → le I J → R' J v y)
    (k : Ok w.params I s.heap) (hh : A.handled = none) (hl : I l = some (listO vs ep)) (hR : All2 (R I) vs xs) (hn : vs.length ≤ 1000)
    (turn : ∀ v y I₁ C m₁ mu₁ s₁, y ∈ xs → R I₁ v y → le I I₁ → m₁ x = some v → St w.params [93] s.heap I I₁ C m₁ mu₁ s₁.heap → Same s s₁ →
      wpAny (model prog w) A (testsOf ifs (compEnvC scope cl C env)) (fun ok s₃ => ok = p y ∧
        if ok = true then wpAny (model prog w) A (eval elt (compEnvC scope cl C env)) (fun y' s₄ => ∃ I₂ m₂, Same s s₄ ∧ le I₁ I₂ ∧ R' I₂ y' y ∧ St w.params [93] s.heap I I₂ C m₂ mu₁ s₄.heap) NoE s₃
        else ∃ I₂ m₂, Same s s₃ ∧ le I₁ I₂ ∧ St w.params [93] s.heap I I₂ C m₂ mu₁ s₃.heap) NoE s₁)
    (hq : ∀ D C I₁ m₁ ys n mu₁ s₁, le I I₁ → All2 (R' I₁) ys (xs.filter p) → St w.params [93] s.heap I I₁ C m₁ ((D, listO ys n) :: mu₁) s₁.heap → Same s s₁ → compPost (model prog w) A E use Q (.ref D) C (.ok .next) s₁)
    (hcell : ∀ y ∈ scope.names, y.2 ≠ .cell) (hkind : scope.kind = .function) (hx : scope.names.lookup x = some .local) :
    CompRest prog w A E env elt x px iter ifs scope cl pos use Q (.ref l) s := by
  refine comp_list k hh hl hn hcell hkind hx (fun i I₁ ys => All2 (R' I₁) ys ((xs.take i).filter p)) (by simp; exact .nil) (fun i I₁ ys h => ?_) ?_ ?_
  · rw [h.length]
    exact Nat.le_trans (List.length_filter_le ..) (by rw [List.length_take]; omega)
  · intro i v I₁ C m₁ mu₁ ys s₁ hv hle hJ hm S hs
    obtain ⟨y, hy, hRy⟩ := hR.get hv
    have ht : xs.take (i + 1) = xs.take i ++ [y] := by rw [List.take_add_one, hy]; rfl
    refine wpAny_mono (turn v y I₁ C m₁ mu₁ s₁ (List.mem_of_getElem? hy) (mono _ _ _ _ hRy hle) hle hm S hs) (fun ok s₃ h₃ => ?_) fun _ _ z => z
    obtain ⟨rfl, h₃⟩ := h₃
    by_cases hp : p y = true
    · rw [if_pos hp] at h₃ ⊢
      refine wpAny_mono h₃ (fun y' s₄ h₄ => ?_) fun _ _ z => z
      obtain ⟨I₂, m₂, a, b, c, d⟩ := h₄
      refine ⟨I₂, m₂, a, b, ?_, d⟩
      rw [ht, List.filter_append, show [y].filter p = [y] by simp [hp]]
      exact (hJ.imp fun _ _ z => mono' _ _ _ _ z b).append (.cons c .nil)
    · rw [if_neg hp] at h₃ ⊢
      obtain ⟨I₂, m₂, a, b, d⟩ := h₃
      refine ⟨I₂, m₂, a, b, ?_, d⟩
      rw [ht, List.filter_append, show [y].filter p = [] by simp [hp], List.append_nil]
      exact hJ.imp fun _ _ z => mono' _ _ _ _ z b
  · intro D C I₁ m₁ ys n mu₁ s₁ hle hJ S hs
    have e : vs.length = xs.length := hR.length
    rw [e, List.take_length] at hJ
    exact hq D C I₁ m₁ ys n mu₁ s₁ hle hJ S hs
-- [elt for x in l]
theorem comp_map {α : Type} {R R' : Kn → Value → α → Prop} {elt iter : PySem.Expr} {x : Str} {px : Pos} {scope : Scope} {cl : List (Str × Addr)} {pos : Pos} {use : Option (Value → Sem Unit)} {Q : Value → Shared → Prop} {l : Addr} {vs : List Value} {xs : List α} {ep : Nat}
    (mono : ∀ I J v y, R I v y → le I J → R J v y) (mono' : ∀ I J v y, R' I v y → le I J → R' J v y)
    (k : Ok w.params I s.heap) (hh : A.handled = none) (hl : I l = some (listO vs ep)) (hR : All2 (R I) vs xs) (hn : vs.length ≤ 1000)
    (turn : ∀ v y I₁ C m₁ mu₁ s₁, y ∈ xs → R I₁ v y → le I I₁ → m₁ x = some v → St w.params [93] s.heap I I₁ C m₁ mu₁ s₁.heap → Same s s₁ →
      wpAny (model prog w) A (eval elt (compEnvC scope cl C env)) (fun y' s₄ => ∃ I₂ m₂, Same s s₄ ∧ le I₁ I₂ ∧ R' I₂ y' y ∧ St w.params [93] s.heap I I₂ C m₂ mu₁ s₄.heap) NoE s₁)
    (hq : ∀ D C I₁ m₁ ys n mu₁ s₁, le I I₁ → All2 (R' I₁) ys xs → St w.params [93] s.heap I I₁ C m₁ ((D, listO ys n) :: mu₁) s₁.heap → Same s s₁ → compPost (model prog w) A E use Q (.ref D) C (.ok .next) s₁)
    (hcell : ∀ y ∈ scope.names, y.2 ≠ .cell) (hkind : scope.kind = .function) (hx : scope.names.lookup x = some .local) :
    CompRest prog w A E env elt x px iter [] scope cl pos use Q (.ref l) s := by
  refine comp_gen (R := R) (R' := R') (fun _ => true) mono mono' k hh hl hR hn (fun v y I₁ C m₁ mu₁ s₁ h1 h2 h3 h4 h5 h6 => tests_nil ⟨rfl, ?_⟩) (fun D C I₁ m₁ ys n mu₁ s₁ a b c d => hq D C I₁ m₁ ys n mu₁ s₁ a (by rw [List.filter_eq_self.mpr (fun _ _ => rfl)] at b; exact b) c d) hcell hkind hx
  rw [if_pos rfl]
  exact turn v y I₁ C m₁ mu₁ s₁ h1 h2 h3 h4 h5 h6
end
end Mine

-- part LDue
set_option maxRecDepth 100000
set_option maxHeartbeats 0
set_option pp.deepTerms false
set_option pp.maxSteps 2500
namespace Mine
open PySem PySem.W PySem.W.X PyProof.Rows PySem.Calls
theorem Same.co {a b c : Shared} (x : Same a b) (y : Same a c) : Same b c := by
  obtain ⟨h, t, rfl⟩ := x; obtain ⟨h', t', rfl⟩ := y; exact ⟨h', t', rfl⟩
inductive isOne (prog : Program) (w : World) (I : Kn) (v : Value) (c : Cl) : Prop
  | mk (fa : Addr) (fn : Nat) (t0 t1 t2 t3 : Tok) (sd : Addr) (os : Obj) (t4 : Tok) (e : v = .ref fa) (h1 : I fa = some (tupO [.int c.pr t0, .int 1 t1, .int c.own t2, .int c.whole t3, .ref sd] fn)) (h2 : I sd = some os) (h3 : CalO prog w os [(c.who, .int 1 t4)]) : isOne prog w I v c
theorem isOne.mono {prog : Program} {w : World} {I J : Kn} {v : Value} {c : Cl} (h : isOne prog w I v c) (l : le I J) : isOne prog w J v c := by
  obtain ⟨fa, fn, t0, t1, t2, t3, sd, os, t4, e, h1, h2, h3⟩ := h
  exact ⟨fa, fn, t0, t1, t2, t3, sd, os, t4, e, l _ _ h1, l _ _ h2, h3⟩
theorem scan_snoc (c : Cl) : ∀ (l : List Cl) (acc : List Str), scan acc (l ++ [c]) = if (scan acc l).contains c.name then scan acc l else scan acc l ++ [c.name]
  | [], acc => rfl
  | d :: l, acc => by
    show scan _ (l ++ [c]) = _
    rw [scan_snoc c l]
    rfl
theorem scan_len : ∀ (acc : List Str) (l : List Cl), (scan acc l).length ≤ acc.length + l.length
  | acc, [] => Nat.le_refl _
  | acc, c :: l => by
    have := scan_len (if acc.contains c.name then acc else acc ++ [c.name]) l
    have h : (if acc.contains c.name then acc else acc ++ [c.name]).length ≤ acc.length + 1 := by split <;> simp
    show (scan _ l).length ≤ _
    rw [List.length_cons]
    omega
noncomputable def eqS (x : Str) : Value → Bool
  | .str y _ => y == x
  | _ => false
theorem any_eqS {x : Str} {I : Kn} {vs : List Value} {xs : List Str} (h : All2 (isStr I) vs xs) : vs.any (eqS x) = xs.contains x := by
  induction h with
  | nil => rfl
  | @cons a b _ _ h r ih =>
    obtain ⟨t, rfl⟩ := h
    rw [List.any_cons, ih, List.contains_cons]
    show (b == x || _) = _
    congr 1
    exact Bool.eq_iff_iff.mpr ⟨fun h => beq_iff_eq.mpr (beq_iff_eq.mp h).symm, fun h => beq_iff_eq.mpr (beq_iff_eq.mp h).symm⟩
section
variable {prog : Program} {w : World} {A : Around} {E : Value → Shared → Prop} {s : Shared} {I : Kn}
theorem stM' {P : Params} {X : List Addr} {h₀ : Heap} {I₀ : Kn} {L : Addr} {m : Str → Option Value} {mu : List (Addr × Obj)} {env : Env} {x : Str} {c : Addr} {v₀ : Option Value} {v : Value} {Q : Unit → Shared → Prop} (S : St P X h₀ I₀ I L m ((c, cellO v₀) :: mu) s.heap) (hc : env.cells.lookup x = some c)
    (h : ∀ s', Same s s' → St P X h₀ I₀ I L m ((c, cellO (some v)) :: mu) s'.heap → Q () s')
    (hk : env.scope.kind = .function := by rfl) (hl : env.kindOf x = some .cell := by rfl) : wpAny (model prog w) A (storeName env x v) Q E s :=
  stCell S hc (fun h' S' => h { s with heap := h' } ⟨_, _, rfl⟩ S') hk hl
theorem lenSt {P : Params} {X : List Addr} {h₀ : Heap} {I₀ : Kn} {L : Addr} {m : Str → Option Value} {mu : List (Addr × Obj)} {l : Addr} {vs : List Value} {n : Nat} {Q : Value → Shared → Prop} (S : St P X h₀ I₀ I L m mu s.heap) (hl : I l = some (listO vs n)) (hz : vs.length ≤ 1000)
    (h : ∀ t s', Same s s' → s'.heap = s.heap → Q (.int vs.length t) s') : wpAny (model prog w) A (call (.builtin "len") [.ref l]) Q E s := by
  refine len_list ⟨_, S.ok.inh _ _ hl, rfl, _, rfl⟩ (by rw [List.size_toArray]; omega) ?_
  rw [List.size_toArray]
  exact h _ _ ⟨_, _, rfl⟩ rfl
theorem cal_step {kvs : List (Int × Value)} {m : List Cl} {j : Nat} {t : Tok} (h : CalIs kvs (fun k => if 0 ≤ k ∧ k < (j : Int) then calOf m k else none)) (hn : 0 < (m.filter fun c => c.who == (0 + (j : Int))).length) :
    CalIs (stored kvs (0 + (j : Int)) (.int ((m.filter fun c => c.who == (0 + (j : Int))).length : Nat) t)) (fun k => if 0 ≤ k ∧ k < ((j + 1 : Nat) : Int) then calOf m k else none) := by
  intro k
  rw [valueAt_stored]
  by_cases e : k = 0 + (j : Int)
  · subst e
    refine .inr ⟨_, t, if_pos rfl, ?_⟩
    show (if _ then _ else _) = _
    rw [if_pos ⟨by omega, by push_cast; omega⟩]
    unfold calOf
    rw [if_neg (by omega)]
  · rw [if_neg e]
    have := h k
    have e2 : (0 ≤ k ∧ k < ((j + 1 : Nat) : Int)) ↔ (0 ≤ k ∧ k < (j : Int)) := by push_cast; omega
    simp only [e2]
    exact this
theorem cal_skip {kvs : List (Int × Value)} {m : List Cl} {j : Nat} (h : CalIs kvs (fun k => if 0 ≤ k ∧ k < (j : Int) then calOf m k else none)) (hn : ¬ 0 < (m.filter fun c => c.who == (0 + (j : Int))).length) :
    CalIs kvs (fun k => if 0 ≤ k ∧ k < ((j + 1 : Nat) : Int) then calOf m k else none) := by
  have : (fun k => if 0 ≤ k ∧ k < ((j + 1 : Nat) : Int) then calOf m k else none) = (fun k => if 0 ≤ k ∧ k < (j : Int) then calOf m k else none) := by
    funext k
    by_cases e : k = 0 + (j : Int)
    · subst e
      rw [if_pos ⟨by omega, by push_cast; omega⟩, if_neg (by omega)]
      unfold calOf
      rw [if_pos (by omega)]
    · have e2 : (0 ≤ k ∧ k < ((j + 1 : Nat) : Int)) ↔ (0 ≤ k ∧ k < (j : Int)) := by push_cast; omega
      simp only [e2]
  rw [this]; exact h
theorem cal_all {kvs : List (Int × Value)} {m : List Cl} (hm : ∀ c ∈ m, 0 ≤ c.who ∧ c.who < 4) (h : CalIs kvs (fun k => if 0 ≤ k ∧ k < ((4 : Nat) : Int) then calOf m k else none)) : CalIs kvs (calOf m) := by
  have : (fun k => if 0 ≤ k ∧ k < ((4 : Nat) : Int) then calOf m k else none) = calOf m := by
    funext k
    split
    · rfl
    · rename_i hk
      unfold calOf
      rw [if_pos]
      rw [List.length_eq_zero_iff, List.filter_eq_nil_iff]
      intro c hc e
      have := hm c hc
      have : c.who = k := by simpa using e
      subst this
      exact hk ⟨by omega, by push_cast; omega⟩
  rw [this] at h; exact h
theorem stored_len (kvs : List (Int × Value)) (k : Int) (v : Value) : (stored kvs k v).length ≤ kvs.length + 1 := by
  unfold stored
  split <;> simp
theorem in_one {a k : Int} {v : Value} : ((valueAt [(a, v)]) k).isSome = (a == k) := by
  unfold valueAt
  by_cases e : a = k
  · subst e; simp
  · have : (a == k) = false := by simpa using e
    rw [this]; simp [e]
theorem obj98 (P : Params) : ∃ c d fd sl, (KK P).lookup 98 = some ⟨c, d, .func fd, sl⟩ := ⟨_, _, _, _, by rfl⟩
theorem dueW {Cv kv : Value} {cs : List Cl} {keys : List (Nat × Int)} (k : Ok w.params I s.heap) (r : Room A 80) (hC : isLst (isCall prog w) I Cv cs) (hK : isKeys I kv keys) (hk : ∀ k ∈ keys, KeyOk k) (hd : ∀ k ∈ keys, k.2 ≠ 0) (hcl : cs.length ≤ 20) (hkl : keys.length ≤ 10) (h5 : (dueNames cs).length ≤ 5) (hw : ∀ c ∈ cs, 0 ≤ c.who ∧ c.who < 4) :
    Ends prog w A I (call (.ref 103) [Cv, kv]) (fun I' v => ∃ q, isRows prog w I' v q ∧ Ordered keys (dueRows cs) q) s := by
  obtain ⟨Ca, Cn, Cvs, rfl, hCa, hCv⟩ := hC
  obtain ⟨Ka, Kn', Kvs, rfl, hKa, hKv⟩ := id hK
  refine enter' (fd := _) (binds := [("calls", .ref Ca), ("keys", .ref Ka)]) (fun L => [(L + 2, cellO none), (L + 1, cellO none)]) k r.lim (k.prog 103 _ (by rfl) (by decide) (by decide) (by decide)) (by rfl) ⟨102, _, _, _, by rfl, k.prog 102 _ (by rfl) (by decide) (by decide) (by decide), by rfl, by rfl⟩ (by rfl) (by rfl) (locs (by rfl)) (fun L s1 hs1 S => ?_)
  refine genQ fun Q0 hQ0 => ?_
  refine wpAny_execs_cons (wpAny_Assign_Name (listM S fun N s2 hs2 S2 => ?_))
  refine st' S2 fun s3 hs3 S3 => ?_
  refine wpAny_execs_cons (wpAny_For (slice3E (ld S3 (v := .ref Ca) (by rfl) (wpAny_evalPart_none (wpAny_evalPart_none (wpAny_UnaryOp (int' fun t1 s4 e4 hs4 => neg' fun t2 s5 e5 hs5 => ?_)))))))
  rw [← e4, ← e5] at S3
  refine ⟨Ca, none, none, some (-1), rfl, .none, .none, .int _ _, by decide, wil S3 hCa (by rw [hCv.length]; omega) fun ws hw' I4 ra s6 le4 hra _ hs6 S4 => ?_⟩
  rw [krv_pick] at hw'
  have ew : Cvs.reverse = ws := by simpa using congrArg Array.toList hw'
  subst ew
  have hS6 : Same s s6 := ((hs1.trans hs2).trans (hs3.trans hs4)).trans (hs5.trans hs6)
  clear hs1 hs2 hs3 hs4 hs5 hs6 S S2 S3 e4 e5
  have hCv4 : All2 (isCall prog w I4) Cvs.reverse cs.reverse := (hCv.imp fun _ _ q => q.mono le4).reverse
  refine for_list (A := A.deeper _) (Q := _) (I := I4) (by exact r.hd) hra S4 (.inl fun _ _ => rfl)
    (fun i I₁ m₁ mu₁ => ∃ ys n, mu₁ = [(N, listO ys n), (L + 2, cellO none), (L + 1, cellO none)] ∧ m₁ (Str.ofString "names") = some (.ref N) ∧ m₁ (Str.ofString "calls") = some (.ref Ca) ∧ m₁ (Str.ofString "keys") = some (.ref Ka) ∧ All2 (isStr I₁) ys (scan [] (cs.reverse.take i)))
    ⟨[], 0, rfl, rfl, rfl, rfl, .nil⟩ ?_ ?_
  · rintro i v I₁ m₁ mu₁ s₁ it oit hv hle ⟨ys, n, rfl, m1, m2, m3, hys⟩ S5 hs5
    refine genT fun Q1 hQ1 => ?_
    obtain ⟨c, hc, hci⟩ := hCv4.get hv
    obtain ⟨ca, cn, ct, fa, fn, t0, t1, t2, t3, sd, os, t4, rfl, hca, hfa, hsd, hos⟩ := hci
    have hi : i < cs.reverse.length := (List.getElem?_eq_some_iff.mp hc).1
    rw [List.length_reverse] at hi
    have hyl : ys.length ≤ 1000 := by have := scan_len [] (cs.reverse.take i); rw [← hys.length, List.length_take, List.length_nil] at this; omega
    refine wpAny_assign_Name (st' S5 fun s7 hs7 S7 => ?_)
    refine wpAny_execs_cons (wpAny_If (wpAny_isTrue_Compare1 (Subscript_ (ld S7 (v := .ref ca) (by rfl) (int' fun _ s8 e8 hs8 => ?_)))))
    rw [← e8] at S7
    refine item_tupleT ⟨_, S7.ok.inh _ _ (hle _ _ hca), rfl, _, rfl⟩ (by decide) (by decide) (by rfl) (by rfl) ?_
    refine ld S7 (v := .ref N) (by exact m1) ?_
    have hN := (S7.own _ (.tail _ (.head _))).1
    refine SeqAt.notIn_listAt (eqS c.name) ⟨_, hN, rfl, _, rfl⟩ (fun y hy => ?_) (wpAny_truthy_bool ?_)
    · have hy : y ∈ ys := by simpa using hy
      obtain ⟨j, hj⟩ := List.getElem?_of_mem hy
      obtain ⟨b, _, ⟨tb, rfl⟩⟩ := hys.get hj
      exact SeqAt.EqAt.str_str b tb c.name ct
    have ean : (ys.toArray.any (eqS c.name)) = (scan [] (cs.reverse.take i)).contains c.name := by rw [← any_eqS hys]; simp
    have hsn : scan [] (cs.reverse.take (i + 1)) = if (scan [] (cs.reverse.take i)).contains c.name then scan [] (cs.reverse.take i) else scan [] (cs.reverse.take i) ++ [c.name] := by
      rw [List.take_add_one, hc]; exact scan_snoc c _ _
    refine ite_bool (fun hb => ?_) (fun hb => ?_)
    · refine wpAny_execs_cons (appSt S7 (by exact m1) (D := N) ⟨_, _, hN, rfl, rfl, rfl⟩ ?_)
      refine Subscript_ (ld S7 (v := .ref ca) (by rfl) (int' fun _ s9 e9 hs9 => ?_))
      rw [← e9] at S7
      refine item_tupleT ⟨_, S7.ok.inh _ _ (hle _ _ hca), rfl, _, rfl⟩ (by decide) (by decide) (by rfl) (by rfl) ?_
      refine ⟨I₁, _, _, ys, n, S7.swap, hyl, fun s10 n' hs10 S8 => wpAny_execs_nil (wpAny_execs_nil ?_)⟩
      refine hQ1 _ _ ?_
      refine ⟨I₁, _, _, hs5.trans ((hs7.trans hs8).trans (hs9.trans hs10)), le.refl _, ?_, S8.swap⟩
      refine ⟨ys ++ [.str c.name ct], n', rfl, m1, m2, m3, ?_⟩
      rw [hsn, if_neg (by rw [← ean]; simpa using hb)]
      exact hys.append (.cons ⟨ct, rfl⟩ .nil)
    · refine wpAny_execs_nil (wpAny_execs_nil (hQ1 _ _ ?_))
      refine ⟨I₁, _, _, hs5.trans (hs7.trans hs8), le.refl _, ?_, S7⟩
      refine ⟨ys, n, rfl, m1, m2, m3, ?_⟩
      rw [hsn, if_pos (by rw [← ean]; simpa using hb)]
      exact hys
  · rintro I₁ m₁ mu₁ s₁ hle ⟨ys, n, rfl, m1, m2, m3, hys⟩ S5 hs5
    have e : Cvs.reverse.length = cs.reverse.length := hCv4.length
    rw [e, List.take_length] at hys
    have S6 := S5.freeze
    have le6 := le_put (o := listO ys n) (S5.own _ (.head _)).2.1
    generalize hI6 : put I₁ N (listO ys n) = I6 at S6 le6
    have hN : I6 N = some (listO ys n) := by rw [← hI6]; exact put_self _ _ _
    have hyl : ys.length ≤ 1000 := by have := scan_len [] cs.reverse; rw [← hys.length, List.length_reverse, List.length_nil] at this; omega
    refine wpAny_execs_cons (wpAny_Assign_Name (listM S6 fun Rw s7 hs7 S7 => ?_))
    refine st' S7 fun s8 hs8 S8 => ?_
    refine wpAny_execs_cons (wpAny_For (slice3E (ld S8 (v := .ref N) (by exact m1) (wpAny_evalPart_none (wpAny_evalPart_none (wpAny_UnaryOp (int' fun t1 s9 e9 hs9 => neg' fun t2 s10 e10 hs10 => ?_)))))))
    rw [← e9, ← e10] at S8
    refine ⟨N, none, none, some (-1), rfl, .none, .none, .int _ _, by decide, wil S8 hN hyl fun ws hw' I9 na s11 le9 hna _ hs11 S9 => ?_⟩
    rw [krv_pick] at hw'
    have ew : ys.reverse = ws := by simpa using congrArg Array.toList hw'
    subst ew
    have hS11 : Same s s11 := (hS6.trans (hs5.trans hs7)).trans ((hs8.trans hs9).trans (hs10.trans hs11))
    clear hS6 hs5 hs7 hs8 hs9 hs10 hs11 S8 S7 S6 S5 S4 e9 e10
    have hys9 : All2 (isStr I9) ys.reverse (dueNames cs) := hys.reverse
    have l9 : le I I9 := le4.trans (hle.trans (le6.trans le9))
    refine for_list (A := A.deeper _) (Q := _) (I := I9) (by exact r.hd) hna S9 (.inl fun _ _ => rfl)
      (fun i I₂ m₂ mu₂ => ∃ zs n v1 v2, mu₂ = [(Rw, listO zs n), (L + 2, cellO v2), (L + 1, cellO v1)] ∧ m₂ (Str.ofString "rows") = some (.ref Rw) ∧ m₂ (Str.ofString "calls") = some (.ref Ca) ∧ m₂ (Str.ofString "keys") = some (.ref Ka) ∧ All2 (isRow prog w I₂) zs (((dueNames cs).take i).map (rowOf cs)))
      ⟨[], 0, none, none, rfl, rfl, m2, m3, .nil⟩ ?_ ?_
    · rintro i v I₂ m₂ mu₂ s₂ it oit hv hle2 ⟨zs, nz, v1, v2, rfl, q1, q2, q3, hzs⟩ S10 hs10
      refine genT fun Q2 hQ2 => ?_
      obtain ⟨x, hx, ⟨tx, rfl⟩⟩ := hys9.get hv
      have l2 : le I I₂ := l9.trans hle2
      refine wpAny_assign_Name (stM' (S10.front [_, _, _]) (by rfl) fun s11' hs11 S11 => ?_)
      have hnm := S11.own _ (.head _)
      refine wpAny_execs_cons ?_
      refine compA (cl := [("name", L + 1)]) (ld S11 (v := .ref Ca) (by exact q2) ?_) (by rfl) (by rfl) (by rfl) (by decide) (fun _ => by rfl)
      refine comp_gen (R := isCall prog w) (R' := isOne prog w) (fun c => c.name == x) (fun _ _ _ _ h l => h.mono l) (fun _ _ _ _ h l => h.mono l) S11.ok r.hd (l2 _ _ hCa) (hCv.imp fun _ _ q => q.mono l2) (by rw [hCv.length]; omega) ?_ ?_ (by decide) (by rfl) (by rfl)
      · intro v y Ia C ma mua sa hy hr hle hm Sc hs
        obtain ⟨ca, cn, ct, fa, fn, t0, t1, t2, t3, sd, os, t4, rfl, hca, hfa, hsd, hos⟩ := hr
        refine tests_one (wpAny_isTrue_Compare1 (Subscript_ (ld Sc (v := .ref ca) hm (wpAny_Constant_int (item_tupleT ⟨_, Sc.ok.inh _ _ hca, rfl, _, rfl⟩ (by decide) (by decide) (by rfl) (by rfl) (ldCell (by rfl) (Sc.base _ _ (by simpa using S11.neM (.head _)) hnm.1) (eq_str (wpAny_truthy_bool ⟨rfl, ?_⟩))))))))
        refine ite_bool (fun hb => ?_) (fun hb => ?_)
        · refine Subscript_ (ld Sc (v := .ref ca) hm (wpAny_Constant_int (item_tupleT ⟨_, Sc.ok.inh _ _ hca, rfl, _, rfl⟩ (by decide) (by decide) (by rfl) (by rfl) ?_)))
          exact ⟨Ia, _, hs.toks.toks, le.refl _, ⟨fa, fn, t0, t1, t2, t3, sd, os, t4, rfl, hfa, hsd, hos⟩, Sc⟩
        · exact ⟨Ia, _, hs.toks, le.refl _, Sc⟩
      · intro D C Ia ma ps n' mua sa hle' hps Sc hs
        refine post_some' S11 Sc hs (fun s12 I12 le12 hD hs12 S12 => ?_)
        have hmine : All2 (isOne prog w I12) ps (mineOf cs x) := hps.imp fun _ _ q => q.mono le12
        have hpl : ps.length ≤ 1000 := by rw [hps.length]; have := List.length_filter_le (fun c : Cl => c.name == x) cs; omega
        have l12 : le I₂ I12 := hle'.trans le12
        have hS12 : Same s s12 := hS11.trans (hs10.trans (hs11.trans hs12))
        clear hs12 hs11 hs Sc S11 S10
        refine wpAny_execs_cons (wpAny_Assign_Name (dictM S12 fun Cd s13 hs13 S13 => ?_))
        refine st' S13 fun s14 hs14 S14 => ?_
        refine wpAny_execs_cons (wpAny_For (Call_Name rfl (ldB S14.ok (v := .type "range") (by kernel_rfl!) (by kernel_rfl!) ?_)))
        refine callN (I := I12) keep_t (spliced_more (int' fun tq s15 e15 hs15 => spliced_none ?_))
        rw [← e15] at S14
        refine ⟨S14.ok.inh, call_range_1 ?_⟩
        have S15 := S14.silent (h' := s15.heap.push { cls := .type "range", data := .fields #[.int 0 s15.toks, .int 4 tq, .int 1 (s15.toks + 1)] }) (fun b o e => Heap.get?_push_of_some _ e)
        have hS15 : Same s { s15 with heap := s15.heap.push { cls := .type "range", data := .fields #[.int 0 s15.toks, .int 4 tq, .int 1 (s15.toks + 1)] }, toks := s15.toks + 1 + 1 } := (hS12.trans (hs13.trans (hs14.trans hs15))).both
        have hR15 := IsRange.new s15.heap 0 4 1 s15.toks tq (s15.toks + 1)
        have e0 : CalO prog w { cls := .type "dict", data := .dict #[] } [] := ⟨#[], 0, ⟨rfl, rfl, rfl⟩, rfl, fun e he => (by simp at he), .nil, List.nodup_nil⟩
        clear hS12 hs13 hs14 hs15 S13 S12
        refine for_range (A := A.deeper _) (Q := _) (n := 4) (by exact r.hd) S15 hR15 (by rfl) (by rfl) (fun _ _ => rfl)
          (fun j I₃ m₃ mu₃ => ∃ o kvs v2', mu₃ = [(Cd, o), (L + 1, cellO (some (.str x tx))), (it, oit), (Rw, listO zs nz), (L + 2, cellO v2')] ∧ m₃ (Str.ofString "mine") = some (.ref D) ∧ m₃ (Str.ofString "callers") = some (.ref Cd) ∧ m₃ (Str.ofString "rows") = some (.ref Rw) ∧ m₃ (Str.ofString "calls") = some (.ref Ca) ∧ m₃ (Str.ofString "keys") = some (.ref Ka) ∧
            CalO prog w o kvs ∧ CalIs kvs (fun k => if 0 ≤ k ∧ k < (j : Int) then calOf (mineOf cs x) k else none) ∧ kvs.length ≤ j)
          ⟨_, [], v2, rfl, rfl, rfl, q1, q2, q3, e0, fun k => .inl ⟨rfl, if_neg (by omega)⟩, Nat.le_refl _⟩ ?_ ?_
        · rintro j tw I₃ m₃ mu₃ s₃ it2 oit2 hj hle3 ⟨o, kvs, v2', rfl, p1, p2, p3, p4, p5, hco, hci, hkl'⟩ S16 hs16
          refine genT fun Q3 hQ3 => ?_
          refine wpAny_assign_Name (stM' (S16.front [_, _, _, _, _]) (by rfl) fun s17 hs17 S17 => ?_)
          have hwo := S17.own _ (.head _)
          refine execs_consN fun Q7 hQ7 => (wpAny_Assign_Name (Call_Name rfl (ldB S17.ok (v := .builtin "len") (by kernel_rfl!) (by kernel_rfl!) ?_)))
          refine callN (I := I₃) keep_b (spliced_more (compN (cl := [("who", L + 2)]) (ld S17 (v := .ref D) (by exact p1) ?_) (by rfl) (by rfl) (by decide) (fun _ => by rfl)))
          refine comp_filter (R := isOne prog w) (fun c => c.who == (0 + (j : Int))) (fun _ _ _ _ h l => h.mono l) S17.ok r.hd (hle3 _ _ hD) (hmine.imp fun _ _ q => q.mono hle3) hpl ?_ ?_ (by decide) (by rfl) (by rfl) (by decide)
          · intro v y Ib C2 mb mub sb hy hr hle hm Sc2 hs2
            obtain ⟨fa, fn, t0, t1, t2, t3, sd, os, t4, rfl, hfa, hsd, hos⟩ := hr
            refine wpAny_isTrue_Compare1 (ldCell (by rfl) (Sc2.base _ _ (by simpa using S17.neM (.head _)) hwo.1) (Subscript_ (ld Sc2 (v := .ref fa) hm (wpAny_Constant_int (item_tupleT ⟨_, Sc2.ok.inh _ _ hfa, rfl, _, rfl⟩ (by decide) (by decide) (by rfl) (by rfl) ?_)))))
            refine wpAny_in_of (knd := intKind prog w) (intKind_is _ _ _ _) (beq_eq_false_iff_ne.mpr (cal_ne1 Sc2.ok hsd hos)) (hos.of (Sc2.ok.inh _ _ hsd)).mapOf (wpAny_truthy_bool ⟨in_one, Ib, hs2.toks.toks, le.refl _, Sc2⟩)
          · intro D3 C3 Ib mb os nb mub sb hle3' hos Sc3 hs3
            refine post_none' Sc3 hs3 fun s18 I18 l18 hD3 hs18 g18 => ?_
            have S18 := S17.grow g18
            have hol : os.length = ((mineOf cs x).filter fun c => c.who == (0 + (j : Int))).length := hos.length
            have hol' : os.length ≤ 1000 := by rw [hol]; rw [hmine.length] at hpl; exact Nat.le_trans (List.length_filter_le ..) hpl
            refine spliced_none ⟨fun b o e => S18.ok.inh _ _ (g18.le _ _ e), ?_⟩
            refine lenSt S18 hD3 hol' fun tl s19 hs19 e19 => ?_
            rw [← e19] at S18
            refine st' S18 fun s20 hs20 S20 => ?_
            refine hQ7 _ ?_
            refine wpAny_execs_cons (wpAny_If (wpAny_isTrue_Compare1 (ld S20 (v := .int os.length tl) (by rfl) (int' fun _ s21 e21 hs21 => PyProof.Rows.gt_int (wpAny_truthy_bool ?_)))))
            rw [← e21] at S20
            have hS21 := (hs16.trans (hs17.trans hs18)).trans (hs19.trans (hs20.trans hs21))
            rw [hol] at S20 ⊢
            refine ite_bool (fun hb => ?_) (fun hb => ?_)
            · have hb : 0 < ((mineOf cs x).filter fun c => c.who == (0 + (j : Int))).length := by simpa using hb
              refine wpAny_execs_cons (wpAny_Assign_Subscript (ld S20 (v := .int (((mineOf cs x).filter fun c => c.who == (0 + (j : Int))).length : Nat) tl) (by rfl) (ld S20 (v := .ref Cd) (by exact p2) (ldCell (by rfl) (S20.own _ (.head _)).1 ?_))))
              refine setSt (S20.front [_, _]) hco ⟨_, rfl⟩ (by omega) fun h' tk o' c' S22 => wpAny_execs_nil (wpAny_execs_nil (hQ3 _ _ ?_))
              refine ⟨I18, _, _, hS21.both, g18.le, ?_, (S22.swap.back [_, _, _, _, _]).swap⟩
              refine ⟨o', _, _, rfl, p1, p2, p3, p4, p5, c', cal_step hci hb, ?_⟩
              have := stored_len kvs (0 + (j : Int)) (.int (((mineOf cs x).filter fun c => c.who == (0 + (j : Int))).length : Nat) tl)
              omega
            · have hb : ¬ 0 < ((mineOf cs x).filter fun c => c.who == (0 + (j : Int))).length := by simpa using hb
              refine wpAny_execs_nil (wpAny_execs_nil (hQ3 _ _ ?_))
              refine ⟨I18, _, _, hS21, g18.le, ?_, S20.back [_, _, _, _, _]⟩
              exact ⟨o, kvs, _, rfl, p1, p2, p3, p4, p5, hco, cal_skip hci hb, by omega⟩
        · rintro I₃ m₃ mu₃ s₃ hle3 ⟨o, kvs, v2', rfl, p1, p2, p3, p4, p5, hco, hci, hkl'⟩ S16 hs16
          have hcal := cal_all (fun c hc => hw c (List.mem_filter.mp hc).1) hci
          have hS16 := hS15.trans hs16
          clear hS15 hs16 S15
          have S17 := S16.freeze
          have le17 := le_put (o := o) (S16.own _ (.head _)).2.1
          generalize hI17 : put I₃ Cd o = I17 at S17 le17
          have hCd : I17 Cd = some o := by rw [← hI17]; exact put_self _ _ _
          have hmine17 : All2 (isOne prog w I17) ps (mineOf cs x) := hmine.imp fun _ _ q => q.mono (hle3.trans le17)
          have hD17 : I17 D = some _ := (hle3.trans le17) _ _ hD
          refine execs_consN fun Q4 hQ4 => (wpAny_Assign_Name (Call_Name rfl (ldB S17.ok (v := .builtin "sum") (by kernel_rfl!) (by kernel_rfl!) ?_)))
          refine callN (I := I17) keep_b (spliced_more (compN (cl := []) (ld S17 (v := .ref D) (by exact p1) ?_) (by rfl) (by rfl) (by decide) (fun _ => by rfl)))
          refine comp_map (R := isOne prog w) (R' := fun _ v c => ∃ t, v = .int c.pr t) (fun _ _ _ _ h l => h.mono l) (fun _ _ _ _ h _ => h) S17.ok r.hd hD17 hmine17 hpl ?_ ?_ (by decide) (by rfl) (by rfl)
          · intro v y Ib C2 mb mub sb hy hr hle hm Sc hs
            obtain ⟨fa, fn, t0, t1, t2, t3, sd, os, t4, rfl, hfa, hsd, hos⟩ := hr
            exact Subscript_ (ld Sc (v := .ref fa) hm (wpAny_Constant_int (item_tupleT ⟨_, Sc.ok.inh _ _ hfa, rfl, _, rfl⟩ (by decide) (by decide) (by rfl) (by rfl) ⟨Ib, _, hs.toks, le.refl _, ⟨_, rfl⟩, Sc⟩)))
          intro D20 C20 Ib20 mb20 vs20 nb20 mub20 sb20 hle20 hv20 Sc20 hsc20
          refine post_none' Sc20 hsc20 fun s20 I20 l20 hD20 hs20 g20 => ?_
          have S20 := S17.grow g20
          refine spliced_none ⟨fun b o e => S20.ok.inh _ _ (g20.le _ _ e), ?_⟩
          refine sumSt (A := A.deeper _) r.hd S20 hD20 (sum_map (f := fun c : Cl => c.pr) (fun _ _ z => z) hv20) fun tprimitive s21 hs21 S21 => ?_
          refine st' S21 fun s22 hs22 S22 => ?_
          refine hQ4 _ ?_
          have lI20 : le I17 I20 := g20.le
          have hSS20 := hS16.trans (hs20.trans (hs21.trans hs22))
          clear hsc20 Sc20 hs20 hs21 hs22 S20 S21
          refine execs_consN fun Q5 hQ5 => (wpAny_Assign_Name (Call_Name rfl (ldB S22.ok (v := .builtin "sum") (by kernel_rfl!) (by kernel_rfl!) ?_)))
          refine callN (I := I20) keep_b (spliced_more (compN (cl := []) (ld S22 (v := .ref D) (by exact p1) ?_) (by rfl) (by rfl) (by decide) (fun _ => by rfl)))
          refine comp_map (R := isOne prog w) (R' := fun _ v c => ∃ t, v = .int c.own t) (fun _ _ _ _ h l => h.mono l) (fun _ _ _ _ h _ => h) S22.ok r.hd (lI20 _ _ hD17) (hmine17.imp fun _ _ q => q.mono lI20) hpl ?_ ?_ (by decide) (by rfl) (by rfl)
          · intro v y Ib C2 mb mub sb hy hr hle hm Sc hs
            obtain ⟨fa, fn, t0, t1, t2, t3, sd, os, t4, rfl, hfa, hsd, hos⟩ := hr
            exact Subscript_ (ld Sc (v := .ref fa) hm (wpAny_Constant_int (item_tupleT ⟨_, Sc.ok.inh _ _ hfa, rfl, _, rfl⟩ (by decide) (by decide) (by rfl) (by rfl) ⟨Ib, _, hs.toks, le.refl _, ⟨_, rfl⟩, Sc⟩)))
          intro D25 C25 Ib25 mb25 vs25 nb25 mub25 sb25 hle25 hv25 Sc25 hsc25
          refine post_none' Sc25 hsc25 fun s25 I25 l25 hD25 hs25 g25 => ?_
          have S25 := S22.grow g25
          refine spliced_none ⟨fun b o e => S25.ok.inh _ _ (g25.le _ _ e), ?_⟩
          refine sumSt (A := A.deeper _) r.hd S25 hD25 (sum_map (f := fun c : Cl => c.own) (fun _ _ z => z) hv25) fun town s26 hs26 S26 => ?_
          refine st' S26 fun s27 hs27 S27 => ?_
          refine hQ5 _ ?_
          have lI25 : le I17 I25 := lI20.trans g25.le
          have hSS25 := hSS20.trans (hs25.trans (hs26.trans hs27))
          clear hsc25 Sc25 hs25 hs26 hs27 S25 S26
          refine execs_consN fun Q6 hQ6 => (wpAny_Assign_Name (Call_Name rfl (ldB S27.ok (v := .builtin "sum") (by kernel_rfl!) (by kernel_rfl!) ?_)))
          refine callN (I := I25) keep_b (spliced_more (compN (cl := []) (ld S27 (v := .ref D) (by exact p1) ?_) (by rfl) (by rfl) (by decide) (fun _ => by rfl)))
          refine comp_map (R := isOne prog w) (R' := fun _ v c => ∃ t, v = .int c.whole t) (fun _ _ _ _ h l => h.mono l) (fun _ _ _ _ h _ => h) S27.ok r.hd (lI25 _ _ hD17) (hmine17.imp fun _ _ q => q.mono lI25) hpl ?_ ?_ (by decide) (by rfl) (by rfl)
          · intro v y Ib C2 mb mub sb hy hr hle hm Sc hs
            obtain ⟨fa, fn, t0, t1, t2, t3, sd, os, t4, rfl, hfa, hsd, hos⟩ := hr
            exact Subscript_ (ld Sc (v := .ref fa) hm (wpAny_Constant_int (item_tupleT ⟨_, Sc.ok.inh _ _ hfa, rfl, _, rfl⟩ (by decide) (by decide) (by rfl) (by rfl) ⟨Ib, _, hs.toks, le.refl _, ⟨_, rfl⟩, Sc⟩)))
          intro D30 C30 Ib30 mb30 vs30 nb30 mub30 sb30 hle30 hv30 Sc30 hsc30
          refine post_none' Sc30 hsc30 fun s30 I30 l30 hD30 hs30 g30 => ?_
          have S30 := S27.grow g30
          refine spliced_none ⟨fun b o e => S30.ok.inh _ _ (g30.le _ _ e), ?_⟩
          refine sumSt (A := A.deeper _) r.hd S30 hD30 (sum_map (f := fun c : Cl => c.whole) (fun _ _ z => z) hv30) fun twhole s31 hs31 S31 => ?_
          refine st' S31 fun s32 hs32 S32 => ?_
          refine hQ6 _ ?_
          have lI30 : le I17 I30 := lI25.trans g30.le
          have hSS30 := hSS25.trans (hs30.trans (hs31.trans hs32))
          clear hsc30 Sc30 hs30 hs31 hs32 S30 S31
          have hRw := S32.own _ (.tail _ (.tail _ (.head _)))
          have hzl : zs.length ≤ 1000 := by rw [hzs.length, List.length_map, List.length_take]; omega
          refine wpAny_execs_cons (appSt S32 (by exact p3) (D := Rw) ⟨_, _, hRw.1, rfl, rfl, rfl⟩ ?_)
          refine tupE ?_
          refine spliced_more (ld S32 (v := .int ((mineOf cs x).map fun c => c.pr).sum tprimitive) (by rfl) ?_)
          refine spliced_more (Call_Name rfl (ldB S32.ok (v := .builtin "len") (by kernel_rfl!) (by kernel_rfl!) ?_))
          refine callN (I := I30) keep_b (spliced_more (ld S32 (v := .ref D) (by exact p1) (spliced_none ⟨S32.ok.inh, ?_⟩)))
          refine lenSt S32 (lI30 _ _ hD17) hpl fun tl s40 hs40 e40 => ?_
          rw [← e40] at S32
          refine spliced_more (ld S32 (v := .int ((mineOf cs x).map fun c => c.own).sum town) (by rfl) ?_)
          refine spliced_more (ld S32 (v := .int ((mineOf cs x).map fun c => c.whole).sum twhole) (by rfl) ?_)
          refine spliced_more (ld S32 (v := .ref Cd) (by exact p2) ?_)
          refine spliced_more (ldCell (by rfl) (S32.own _ (.head _)).1 ?_)
          refine spliced_none ⟨by show 6 ≤ 100; decide, wi S32 fun I41 nt s41 le41 hnt _ hs41 S41 => ?_⟩
          refine ⟨I41, _, _, zs, nz, S41.front [_, _], hzl, fun s42 n42 hs42 S42 => wpAny_execs_nil (hQ2 _ _ ?_)⟩
          have lA : le I₂ I41 := l12.trans (hle3.trans (le17.trans (lI30.trans le41)))
          refine ⟨I41, _, _, ?_, lA, ?_, ((S42.front [_]).back [_, _, _]).swap⟩
          · exact hS11.co (hSS30.trans (hs40.trans (hs41.trans hs42)))
          refine ⟨zs ++ [.ref nt], n42, _, _, rfl, p3, p4, p5, ?_⟩
          have hrow : isRow prog w I41 (.ref nt) (rowOf cs x) := by
            refine ⟨nt, 0, tprimitive, tl, town, twhole, Cd, tx, rfl, ?_, o, kvs, (lI30.trans le41) _ _ hCd, hco, hcal⟩
            have e : ps.length = (mineOf cs x).length := hmine.length
            show _ = some (tupO [_, .int ((mineOf cs x).length : Nat) _, _, _, _, _] _)
            rw [← e]
            exact hnt
          rw [List.take_add_one, hx, List.map_append]
          exact (hzs.imp fun _ _ q => q.mono lA).append (.cons hrow .nil)
    · rintro I₂ m₂ mu₂ s₂ hle2 ⟨zs, nz, v1, v2, rfl, q1, q2, q3, hzs⟩ S10 hs10
      obtain ⟨oc, ood, ofd, osl, e98⟩ := obj98 w.params
      have i98 := k.prog 98 _ e98 (by decide) (by decide) (by decide)
      have S11 := S10.freeze
      have le11 := le_put (o := listO zs nz) (S10.own _ (.head _)).2.1
      generalize hI11 : put I₂ Rw (listO zs nz) = I11 at S11 le11
      have hRw : I11 Rw = some (listO zs nz) := by rw [← hI11]; exact put_self _ _ _
      have lB : le I I11 := l9.trans (hle2.trans le11)
      rw [hys9.length, List.take_length] at hzs
      refine wpAny_execs_cons (wpAny_Return_some (Call_Name rfl (ldG S11.ok (v := .ref 98) (by kernel_rfl!) ?_)))
      refine callN (I := I) (keep_fn i98) (spliced_more (ld S11 (v := .ref Rw) (by exact q1) (spliced_more (ld S11 (v := .ref Ka) (by exact q3) (spliced_none ⟨fun b o e => S11.ok.inh _ _ (lB _ _ e), ?_⟩)))))
      refine (orderW (A := A.deeper _) S11.ok (Room.deeper (r.mono (by decide))) (Rv := .ref Rw) (rows := dueRows cs) ⟨Rw, nz, zs, rfl, hRw, hzs.imp fun _ _ q => q.mono le11⟩ (hK.mono lB) hk hd (by unfold dueRows; rw [List.length_map]; exact h5) hkl).use' fun v I12 s12 hs12 g12 hv => ?_
      exact hQ0 _ _ <| leave' (R := fun I' v => ∃ q, isRows prog w I' v q ∧ Ordered keys (dueRows cs) q) (S11.grow g12) (hS11.trans (hs10.trans hs12)) hv
end
end Mine

-- part LKeys
set_option maxRecDepth 100000
set_option maxHeartbeats 0
set_option pp.deepTerms false
set_option pp.maxSteps 2500
namespace Mine
open PySem PySem.W PySem.W.X PyProof.Rows PySem.Calls
theorem ints_all2 {I : Kn} {vs : List Value} {ns : List Int} (h : IntsAre vs ns) : All2 (isInt I) vs ns := by
  induction h with
  | nil => exact .nil
  | cons _ t _ ih => exact .cons ⟨t, rfl⟩ ih
theorem all2_ints {I : Kn} {vs : List Value} {ns : List Int} (h : All2 (isInt I) vs ns) : IntsAre vs ns := by
  induction h with
  | nil => exact .nil
  | cons x _ ih => obtain ⟨t, rfl⟩ := x; exact .cons _ t ih
theorem pickI {k : Int} (h0 : 0 ≤ k) (h1 : k < 5) (t0 t1 t2 t3 t4 : Tok) : ∃ j t i, seqIndex? k 5 = some j ∧ ([Value.int 0 t0, .int 1 t1, .int 2 t2, .int 3 t3, .int 5 t4] : List Value)[j]? = some (.int ((i : Nat) : Int) t) ∧ ∀ d, KeyOk (i, d) := by
  have : k = 0 ∨ k = 1 ∨ k = 2 ∨ k = 3 ∨ k = 4 := by omega
  rcases this with rfl | rfl | rfl | rfl | rfl
  · exact ⟨0, t0, 0, rfl, rfl, fun _ => .inl rfl⟩
  · exact ⟨1, t1, 1, rfl, rfl, fun _ => .inr (.inl rfl)⟩
  · exact ⟨2, t2, 2, rfl, rfl, fun _ => .inr (.inr (.inl rfl))⟩
  · exact ⟨3, t3, 3, rfl, rfl, fun _ => .inr (.inr (.inr (.inl rfl)))⟩
  · exact ⟨4, t4, 5, rfl, rfl, fun _ => .inr (.inr (.inr (.inr rfl)))⟩
theorem pickD {k : Int} (h0 : 0 ≤ k) (h1 : k < 4) (t0 t1 t2 t3 : Tok) : ∃ j t d, seqIndex? k 4 = some j ∧ ([Value.int 1 t0, .int (-1) t1, .int 4 t2, .int (-3) t3] : List Value)[j]? = some (.int d t) ∧ d ≠ 0 := by
  have : k = 0 ∨ k = 1 ∨ k = 2 ∨ k = 3 := by omega
  rcases this with rfl | rfl | rfl | rfl
  · exact ⟨0, t0, 1, rfl, rfl, by decide⟩
  · exact ⟨1, t1, -1, rfl, rfl, by decide⟩
  · exact ⟨2, t2, 4, rfl, rfl, by decide⟩
  · exact ⟨3, t3, -3, rfl, rfl, by decide⟩
section
variable {prog : Program} {w : World} {A : Around} {E : Value → Shared → Prop} {s : Shared} {I : Kn}
theorem keysW {Nv : Value} {ns : List Int} (k : Ok w.params I s.heap) (r : Room A 40) (hN : isLst isInt I Nv ns) (hnl : ns.length ≤ 100) :
    Ends prog w A I (call (.ref 77) [Nv]) (fun I' v => ∃ keys, isKeys I' v keys ∧ (∀ k ∈ keys, KeyOk k) ∧ (∀ k ∈ keys, k.2 ≠ 0) ∧ keys.length ≤ 3) s := by
  obtain ⟨Na, Nn, Nvs, rfl, hNa, hNv⟩ := hN
  have hvl : Nvs.length ≤ 100 := by rw [hNv.length]; exact hnl
  refine enter' (fd := _) (binds := [("numbers", .ref Na)]) (fun L => []) k r.lim (k.prog 77 _ (by rfl) (by decide) (by decide) (by decide)) (by rfl) ⟨76, _, _, _, by rfl, k.prog 76 _ (by rfl) (by decide) (by decide) (by decide), by rfl, by rfl⟩ (by rfl) (by rfl) (locs (by rfl)) (fun L s1 hs1 S => ?_)
  refine genQ fun Q0 hQ0 => ?_
  refine wpAny_execs_cons (wpAny_Assign_Name (listM S fun K s2 hs2 S2 => ?_))
  refine st' S2 fun s3 hs3 S3 => ?_
  refine wpAny_execs_cons (wpAny_For (Call_Name rfl (ldB S3.ok (v := .type "range") (by kernel_rfl!) (by kernel_rfl!) ?_)))
  refine callN (I := I) keep_t (spliced_more (int' fun tq s4 e4 hs4 => spliced_none ?_))
  rw [← e4] at S3
  refine ⟨S3.ok.inh, call_range_1 ?_⟩
  have S4 := S3.silent (h' := s4.heap.push { cls := .type "range", data := .fields #[.int 0 s4.toks, .int 3 tq, .int 1 (s4.toks + 1)] }) (fun b o e => Heap.get?_push_of_some _ e)
  have hS4 : Same s { s4 with heap := s4.heap.push { cls := .type "range", data := .fields #[.int 0 s4.toks, .int 3 tq, .int 1 (s4.toks + 1)] }, toks := s4.toks + 1 + 1 } := ((hs1.trans hs2).trans (hs3.trans hs4)).both
  have hR4 := IsRange.new s4.heap 0 3 1 s4.toks tq (s4.toks + 1)
  clear hs1 hs2 hs3 hs4 S3 S2 S
  refine for_range (A := A.deeper _) (Q := _) (n := 3) (by exact r.hd) S4 hR4 (by rfl) (by rfl) (fun _ _ => rfl)
    (fun j I₁ m₁ mu₁ => ∃ zs n ks, mu₁ = [(K, listO zs n)] ∧ m₁ (Str.ofString "numbers") = some (.ref Na) ∧ m₁ (Str.ofString "keys") = some (.ref K) ∧ All2 (isKey I₁) zs ks ∧ (∀ k ∈ ks, KeyOk k) ∧ (∀ k ∈ ks, k.2 ≠ 0) ∧ ks.length = j)
    ⟨[], 0, [], rfl, rfl, rfl, .nil, (fun _ h => nomatch h), (fun _ h => nomatch h), rfl⟩ ?_ ?_
  · rintro j tj I₁ m₁ mu₁ s₁ it oit hj hle ⟨zs, n, ks, rfl, m1, m2, hzs, hok, hnz, hkl⟩ S5 hs5
    refine genT fun Q1 hQ1 => ?_
    refine wpAny_assign_Name (st' S5 fun s6 hs6 S6 => ?_)
    refine execs_consN fun Q2 hQ2 => (wpAny_Assign_Name (wpAny_BinOp (Call_Name rfl (ldB S6.ok (v := .builtin "sum") (by kernel_rfl!) (by kernel_rfl!) ?_))))
    refine callN (I := I₁) keep_b (spliced_more (compN (cl := []) (slice3E ?_) (by rfl) (by rfl) (by decide) (fun _ => by rfl)))
    refine ld S6 (v := .ref Na) (by exact m1) (wpAny_evalPart_some (ld S6 (v := .int (0 + (j : Int)) tj) (by rfl) (wpAny_evalPart_none (int' fun t3 s7 e7 hs7 => ?_))))
    rw [← e7] at S6
    refine ⟨Na, some (0 + (j : Int)), none, some 3, rfl, .int _ _, .none, .int _ _, by decide, wil S6 (hle _ _ hNa) (by omega) fun ws hw I8 W s8 le8 hW _ hs8 S8 => ?_⟩
    have hwi : IntsAre ws (pickNums ns (some (0 + (j : Int))) none (some 3)) := by
      have := (all2_ints hNv).pick (some (0 + (j : Int))) none (some 3)
      rw [hw] at this
      exact this
    have hwl : ws.length ≤ 1000 := by
      have := slicePick_size_le Nvs.toArray (some (0 + (j : Int))) none (some 3)
      rw [hw] at this
      simp only [List.size_toArray] at this
      omega
    refine comp_map (R := isInt) (R' := fun _ v i => ∃ t, v = .int (i % 140 / 7) t) (fun _ _ _ _ h _ => h) (fun _ _ _ _ h _ => h) S8.ok r.hd hW (ints_all2 hwi) hwl ?_ ?_ (by decide) (by rfl) (by rfl)
    · intro v y Ib C2 mb mub sb hy hr hle hm Sc hs
      obtain ⟨tv, rfl⟩ := hr
      refine wpAny_BinOp (wpAny_BinOp (ld Sc (v := .int y tv) hm (int' fun _ s9 e9 hs9 => mod' (by decide) fun _ s10 e10 hs10 => int' fun _ s11 e11 hs11 => div' (by decide) (by decide) fun tt s12 e12 hs12 => ?_)))
      rw [← e9, ← e10, ← e11, ← e12] at Sc
      exact ⟨Ib, _, hs.trans ((hs9.trans hs10).trans (hs11.trans hs12)), le.refl _, ⟨tt, rfl⟩, Sc⟩
    intro D9 C9 Ib mb vs9 nb mub sb hle9 hv9 Sc9 hsc9
    refine post_none' Sc9 hsc9 fun s9 I9 l9 hD9 hs9 g9 => ?_
    have S9 := S8.grow g9
    refine spliced_none ⟨fun b o e => S9.ok.inh _ _ (g9.le _ _ (le8 _ _ e)), ?_⟩
    refine sumSt (A := A.deeper _) r.hd S9 hD9 (sum_map (f := fun i : Int => i % 140 / 7) (fun _ _ z => z) hv9) fun tS s10 hs10 S10 => ?_
    generalize (List.map (fun i : Int => i % 140 / 7) (pickNums ns (some (0 + (j : Int))) none (some 3))).sum = N
    refine int' fun _ s11 e11 hs11 => mod' (by decide) fun tp s12 e12 hs12 => ?_
    rw [← e11, ← e12] at S10
    refine st' S10 fun s13 hs13 S13 => ?_
    refine hQ2 _ ?_
    have hS13 := (hs5.trans (hs6.trans (hs7.trans hs8))).trans ((hs9.trans hs10).trans ((hs11.trans hs12).trans hs13))
    clear hs5 hs6 hs7 hs8 hs9 hs10 hs11 hs12 hs13 S5 S6 S8 S9 S10 Sc9 hsc9 e7 e11 e12
    have hb : 0 ≤ N % 20 ∧ N % 20 < 20 := ⟨Int.emod_nonneg _ (by decide), Int.emod_lt_of_pos _ (by decide)⟩
    generalize N % 20 = p at S13 hb
    have hK := S13.own _ (.tail _ (.head _))
    refine wpAny_execs_cons (appSt S13 (by exact m2) (D := K) ⟨_, _, hK.1, rfl, rfl, rfl⟩ ?_)
    refine tupE ?_
    refine spliced_more (Subscript_ (tupE ?_))
    refine spliced_more (int' fun t0 s14 e14 hs14 => ?_)
    refine spliced_more (int' fun t1 s15 e15 hs15 => ?_)
    refine spliced_more (int' fun t2 s16 e16 hs16 => ?_)
    refine spliced_more (int' fun t3 s17 e17 hs17 => ?_)
    refine spliced_more (int' fun t4 s18 e18 hs18 => ?_)
    rw [← e14, ← e15, ← e16, ← e17, ← e18] at S13
    refine spliced_none ⟨by show 5 ≤ 100; decide, wi S13 fun I14 ta s19 le14 hta _ hs19 S14 => ?_⟩
    refine wpAny_BinOp (ld S14 (v := .int p tp) (by rfl) (int' fun _ s20 e20 hs20 => mod' (by decide) fun tr s21 e21 hs21 => ?_))
    rw [← e20, ← e21] at S14
    obtain ⟨j1, u1, i1, hj1, hj2, hko⟩ := pickI (k := p % 5) (Int.emod_nonneg _ (by decide)) (Int.emod_lt_of_pos _ (by decide)) t0 t1 t2 t3 t4
    have hb5 : 0 ≤ p % 5 ∧ p % 5 < 5 := ⟨Int.emod_nonneg _ (by decide), Int.emod_lt_of_pos _ (by decide)⟩
    refine item_tupleT ⟨_, S14.ok.inh _ _ hta, rfl, _, rfl⟩ (by omega) (by omega) hj1 hj2 ?_
    have hS21 := ((hS13.trans (hs14.trans hs15)).trans ((hs16.trans hs17).trans (hs18.trans hs19))).trans (hs20.trans hs21)
    clear hS13 hs14 hs15 hs16 hs17 hs18 hs19 hs20 hs21 e14 e15 e16 e17 e18 e20 e21
    refine spliced_more (Subscript_ (tupE ?_))
    refine spliced_more (int' fun d0 s22 e22 hs22 => ?_)
    refine spliced_more (wpAny_UnaryOp (int' fun _ s23 e23 hs23 => neg' fun d1 s24 e24 hs24 => ?_))
    refine spliced_more (int' fun d2 s25 e25 hs25 => ?_)
    refine spliced_more (wpAny_UnaryOp (int' fun _ s26 e26 hs26 => neg' fun d3 s27 e27 hs27 => ?_))
    rw [← e22, ← e23, ← e24, ← e25, ← e26, ← e27] at S14
    refine spliced_none ⟨by show 4 ≤ 100; decide, wi S14 fun I15 tb s28 le15 htb _ hs28 S15 => ?_⟩
    refine wpAny_BinOp (ld S15 (v := .int p tp) (by rfl) (int' fun _ s29 e29 hs29 => div' (by decide) (by decide) fun tr2 s30 e30 hs30 => ?_))
    rw [← e29, ← e30] at S15
    have hb4 : 0 ≤ p / 5 ∧ p / 5 < 4 := by omega
    obtain ⟨j2, u2, d, hj3, hj4, hd0⟩ := pickD (k := p / 5) hb4.1 hb4.2 d0 d1 d2 d3
    refine item_tupleT ⟨_, S15.ok.inh _ _ htb, rfl, _, rfl⟩ (by omega) (by omega) hj3 hj4 ?_
    refine spliced_none ⟨by show 2 ≤ 100; decide, wi S15 fun I16 nk s31 le16 hnk _ hs31 S16 => ?_⟩
    have hS31 := (hS21.trans ((hs22.trans hs23).trans (hs24.trans hs25))).trans ((hs26.trans hs27).trans ((hs28.trans hs29).trans (hs30.trans hs31)))
    have hzl : zs.length ≤ 1000 := by rw [hzs.length, hkl]; omega
    refine ⟨I16, _, _, zs, n, S16.swap, hzl, fun s32 n32 hs32 S17 => wpAny_execs_nil (hQ1 _ _ ?_)⟩
    have lA : le I₁ I16 := le8.trans (g9.le.trans (le14.trans (le15.trans le16)))
    refine ⟨I16, _, _, hS31.trans hs32, lA, ?_, S17.swap⟩
    refine ⟨zs ++ [.ref nk], n32, ks ++ [(i1, d)], rfl, m1, m2, (hzs.imp fun _ _ q => q.mono lA).append (.cons ⟨nk, 0, u1, u2, rfl, hnk⟩ .nil), ?_, ?_, by rw [List.length_append, hkl]; rfl⟩
    · intro k hk
      rcases List.mem_append.mp hk with hk | hk
      · exact hok k hk
      · rw [List.mem_singleton.mp hk]; exact hko d
    · intro k hk
      rcases List.mem_append.mp hk with hk | hk
      · exact hnz k hk
      · rw [List.mem_singleton.mp hk]; exact hd0
  · rintro I₁ m₁ mu₁ s₁ hle ⟨zs, n, ks, rfl, m1, m2, hzs, hok, hnz, hkl⟩ S5 hs5
    have hS5 := hS4.trans hs5
    have S6 := S5.freeze
    have le6 := le_put (o := listO zs n) (S5.own _ (.head _)).2.1
    generalize hI6 : put I₁ K (listO zs n) = I6 at S6 le6
    have hK : I6 K = some (listO zs n) := by rw [← hI6]; exact put_self _ _ _
    refine wpAny_execs_cons (wpAny_Return_some (sliceE (ld S6 (v := .ref K) (by exact m2) (wpAny_evalPart_none (wpAny_evalPart_some (wpAny_BinOp (int' fun tz s7 e7 hs7 => wpAny_BinOp ?_)))))))
    rw [← e7] at S6
    refine Call_Name rfl (ldB S6.ok (v := .builtin "sum") (by kernel_rfl!) (by kernel_rfl!) ?_)
    refine callN (I := I6) keep_b (spliced_more (compN (cl := []) (ld S6 (v := .ref Na) (by exact m1) ?_) (by rfl) (by rfl) (by decide) (fun _ => by rfl)))
    refine comp_map (R := isInt) (R' := fun _ v i => ∃ t, v = .int (i % 3) t) (fun _ _ _ _ h _ => h) (fun _ _ _ _ h _ => h) S6.ok r.hd ((hle.trans le6) _ _ hNa) (hNv.imp fun _ _ q => q) (by omega) ?_ ?_ (by decide) (by rfl) (by rfl)
    · intro v y Ib C2 mb mub sb hy hr hle hm Sc hs
      obtain ⟨tv, rfl⟩ := hr
      refine wpAny_BinOp (ld Sc (v := .int y tv) hm (int' fun _ s9 e9 hs9 => mod' (by decide) fun tt s10 e10 hs10 => ?_))
      rw [← e9, ← e10] at Sc
      exact ⟨Ib, _, hs.trans (hs9.trans hs10), le.refl _, ⟨tt, rfl⟩, Sc⟩
    intro D9 C9 Ib mb vs9 nb mub sb hle9 hv9 Sc9 hsc9
    refine post_none' Sc9 hsc9 fun s9 I9 l9 hD9 hs9 g9 => ?_
    have S9 := S6.grow g9
    refine spliced_none ⟨fun b o e => S9.ok.inh _ _ (g9.le _ _ e), ?_⟩
    refine sumSt (A := A.deeper _) r.hd S9 hD9 (sum_map (f := fun i : Int => i % 3) (fun _ _ z => z) hv9) fun tS s10 hs10 S10 => ?_
    generalize (List.map (fun i : Int => i % 3) ns).sum = N
    refine int' fun _ s11 e11 hs11 => mod' (by decide) fun tp s12 e12 hs12 => add' fun tq' s13 e13 hs13 => ?_
    rw [← e11, ← e12, ← e13] at S10
    have hb : 0 ≤ N % 3 ∧ N % 3 < 3 := ⟨Int.emod_nonneg _ (by decide), Int.emod_lt_of_pos _ (by decide)⟩
    obtain ⟨b, hbn⟩ : ∃ b : Nat, 1 + N % 3 = (b : Int) := ⟨(1 + N % 3).toNat, by omega⟩
    rw [hbn]
    refine ⟨K, none, some (b : Int), rfl, .none, .int _ _, wil S10 (g9.le _ _ hK) (by rw [hzs.length, hkl]; omega) fun ws hw I14 W s14 le14 hW _ hs14 S14 => ?_⟩
    rw [slicePick_upto'] at hw
    have ew : zs.take b = ws := by simpa using congrArg Array.toList hw
    subst ew
    refine hQ0 _ _ <| leave' (R := fun I' v => ∃ keys, isKeys I' v keys ∧ (∀ k ∈ keys, KeyOk k) ∧ (∀ k ∈ keys, k.2 ≠ 0) ∧ keys.length ≤ 3) S14 ((hS5.trans (hs7.trans hs9)).trans ((hs10.trans hs11).trans ((hs12.trans hs13).trans hs14))) ?_
    refine ⟨ks.take b, ⟨W, 0, zs.take b, rfl, hW, ((hzs.imp fun _ _ q => q.mono (le6.trans (g9.le.trans le14))).take b)⟩, fun k hk => hok k (List.mem_of_mem_take hk), fun k hk => hnz k (List.mem_of_mem_take hk), ?_⟩
    rw [List.length_take]
    omega
end
end Mine

-- part LLawA
set_option maxRecDepth 100000
set_option maxHeartbeats 0
set_option pp.deepTerms false
set_option pp.maxSteps 2500
namespace Mine
open PySem PySem.W PySem.W.X PyProof.Rows PySem.Calls
section
variable {prog : Program} {w : World} {A : Around} {E : Value → Shared → Prop} {s : Shared} {I : Kn} {env : Env}
-- [elt for x in range(a, b)]
theorem comp_range {elt iter : PySem.Expr} {x : Str} {px : Pos} {scope : Scope} {cl : List (Str × Addr)} {pos : Pos} {use : Option (Value → Sem Unit)} {Q : Value → Shared → Prop} {r : Addr} {n : Nat} {a b : Int} {t u v : Tok}
    (k : Ok w.params I s.heap) (hh : A.handled = none) (hr : IsRange s.heap r a b 1 t u v) (hn : Builtin.Range.rangeSize a b 1 = n) (hsm : Builtin.Range.small a b 1 = true) (hz : n ≤ 1000) (hcell : ∀ y ∈ scope.names, y.2 ≠ .cell) (hkind : scope.kind = .function) (hx : scope.names.lookup x = some .local)
    (J : Nat → Kn → List Value → Prop) (h0 : J 0 I []) (hJ : ∀ i I₁ ys, J i I₁ ys → ys.length ≤ i)
    (turn : ∀ i t I₁ C m₁ mu₁ ys s₁, i < n → le I I₁ → J i I₁ ys → m₁ x = some (.int (a + (i : Int)) t) → St w.params [93] s.heap I I₁ C m₁ mu₁ s₁.heap → Same s s₁ →
      wpAny (model prog w) A (eval elt (compEnvC scope cl C env)) (fun y s₄ => ∃ I₂ m₂, Same s s₄ ∧ le I₁ I₂ ∧ J (i + 1) I₂ (ys ++ [y]) ∧ St w.params [93] s.heap I I₂ C m₂ mu₁ s₄.heap) NoE s₁)
    (hq : ∀ D C I₁ m₁ ys c mu₁ s₁, le I I₁ → J n I₁ ys → St w.params [93] s.heap I I₁ C m₁ ((D, listO ys c) :: mu₁) s₁.heap → Same s s₁ → compPost (model prog w) A E use Q (.ref D) C (.ok .next) s₁) :
    CompRest prog w A E env elt x px iter [] scope cl pos use Q (.ref r) s := by
  unfold CompRest
  refine wpAny_pyIter_range hr hsm ?_
  rw [hn]
  refine comp_begin (env := env) k rfl hcell hkind fun it D C h₁ tk cenv hit S1 e1 e2 => ?_
  rw [e1, e2, ← hit]
  have loop : ∀ s₃ : Shared, s₃ = { s with heap := h₁, toks := tk } →
      codeAny (model prog w) A (.compLoop (.ListComp elt [⟨.Name x px, iter, [], 0⟩] scope pos) 0 (.ref it) (.ref D) (compEnvC scope cl C env)) (compPost (model prog w) A E use Q (.ref D) C) s₃ := by
    rintro s₃ rfl
    refine codeAny_compLoop_tests (fun k s' => ∃ i I₁ m₁ ys c, Same s s' ∧ i ≤ n ∧ k = n + 1 - i ∧ le I I₁ ∧ J i I₁ ys ∧
      St w.params [93] s.heap I I₁ C m₁ [(D, lsO ys.toArray c), (it, rngO (a + (i : Int)) ((n : Int) - (i : Int)))] s'.heap) ?_ (n + 1) ⟨0, I, _, [], 0, Same.mk, Nat.zero_le _, rfl, le.refl _, h0, by simpa using S1⟩
    rintro k' s' ⟨i, I₁, m₁, ys, c, hs, hi, rfl, hle, hj, S'⟩
    have q := S'.own _ (.tail _ (.head _))
    by_cases hlt : i < n
    · refine wpAny_pyNext_range_item q.1 (by omega) fun h' hit' hs' => ?_
      have e1 : a + (i : Int) + 1 = a + ((i + 1 : Nat) : Int) := by push_cast; omega
      have e2 : (n : Int) - (i : Int) - 1 = (n : Int) - ((i + 1 : Nat) : Int) := by push_cast; omega
      rw [e1, e2] at hit'
      have S2 := (S'.swap.upd hs' hit').swap
      dsimp only
      refine wpAny_assign_Name (st (s := { s' with heap := h', toks := s'.toks + 1 }) S2 (fun h₂ tk₂ S3 => ?_) (by exact hkind) (lookup_relabel_local hx) rfl)
      refine wpAny_tests_nil ?_
      rw [if_pos rfl]
      refine wpAny_mono (turn i s'.toks I₁ C _ _ ys _ hlt hle hj (by simp [setM]) S3 (hs.both.both)) (fun y s₄ h₄ => ?_) (fun _ _ z => z.elim)
      obtain ⟨I₂, m₂, a', b', c', d⟩ := h₄
      have qd := (d.own _ (.head _)).1
      refine wpAny_list_append_plain ⟨c, qd⟩ (fun h₅ hp₅ hs₅ => ?_) (by have := hJ _ _ _ c'; rw [List.length_append] at this; rw [List.size_toArray, sizeLine_eq]; omega)
      obtain ⟨c₅, hp₅⟩ := hp₅
      have S5 := d.upd hs₅ hp₅
      rw [List.push_toArray] at S5
      exact ⟨n + 1 - (i + 1), by omega, i + 1, I₂, m₂, ys ++ [y], c₅, a'.heap, hlt, rfl, hle.trans b', c', S5⟩
    · have e : i = n := by omega
      subst e
      refine wpAny_pyNext_range_end hh q.1 (by omega) fun h' he => ?_
      have nd := S'.nd
      have S'' := S'.swap.drop.offX (fun b o n e => he b o n e) q.2.1 q.2.2.1 q.2.2.2 (by
        intro hm
        rw [List.map_cons, List.map_nil, List.mem_singleton] at hm
        simp only [List.map_cons, List.map_nil, List.nodup_cons, List.mem_singleton] at nd
        exact nd.1 hm.symm)
      exact hq D C I₁ m₁ ys c [] { s' with heap := h' } hle hj S'' hs.heap
  exact codeAny_compStart_list (loop _ rfl) (wpAny_pyIter_rangeiter (x := a) (left := n) (step := 1) (S1.own _ (.tail _ (.head _))).1 (loop _ rfl))
-- the same with two names as the target, over a list
def CompRestP (prog : Program) (w : World) (A : Around) (E : Value → Shared → Prop) (env : Env) (elt : PySem.Expr) (tgt : PySem.Expr) (iter : PySem.Expr) (scope : Scope) (cl : List (Str × Addr)) (pos : Pos) (use : Option (Value → Sem Unit)) (Q : Value → Shared → Prop) (xv : Value) (s₁ : Shared) : Prop :=
  wpAny (model prog w) A (pyIter xv) (fun it s₂ => wpAny (model prog w) A (newList []) (fun acc s₃ => wpAny (model prog w) A (newFunctionEnv scope env.globals cl [] env.qual none .none (some env)) (fun cenv s₄ =>
    codeAny (model prog w) A (.compStart (.ListComp elt [⟨tgt, iter, [], 0⟩] scope pos) 0 it acc { cenv with scope := relabel scope env }) (compPost (model prog w) A E use Q acc cenv.locals) s₄) E s₃) E s₂) E s₁
theorem compAP {elt tgt iter : PySem.Expr} {y : Str} {py : Pos} {scope : Scope} {cl : List (Str × Addr)} {pos spos : Pos} {Q : Flow → Shared → Prop}
    (h : wpAny (model prog w) A (eval iter env) (CompRestP prog w A E env elt tgt iter scope cl pos (some (assign (.Name y py) env)) (fun _ s' => Q .next s')) E s)
    (hsw : swapsWith (.ListComp elt [⟨tgt, iter, [], 0⟩] scope pos) (some (.Name y py)) spos.line env = pure true) (hclos : closureFor scope env = pure cl) (hkind : scope.kind = .function)
    (hnames : ∀ y ∈ scope.names, y.2 = .local → scope.names.lookup y.1 = some .local) (hs : ∀ x, foldedSetIterable iter env x = pure x) :
    wpAny (model prog w) A (exec (.Assign [.Name y py] (.ListComp elt [⟨tgt, iter, [], 0⟩] scope pos) spos) env) Q E s := by
  rw [exec_Assign_Name_used _ _ _ _ hsw]
  refine wpAny_bind (wpAny_standAt (wpAny_bind ?_))
  show wpAny _ A (do let _ ← comprehension (.ListComp elt [⟨tgt, iter, [], 0⟩] scope pos) scope env _ (newList []) false (eval iter env) (some (assign (.Name y py) env))) _ _ s
  exact wpAny_bind (wpAny_mono (wpAny_comprehension_free (use := some (assign (.Name y py) env)) (Q := fun _ s' => Q .next s') rfl hs hclos hkind hnames h) (fun _ s' hq => wpAny_pure (wpAny_pure hq)) fun _ _ e => e)
theorem comp_pair {α : Type} {R' : Kn → Value → α → Prop} {elt iter : PySem.Expr} {x y : Str} {p1 p2 tp : Pos} {kt : Nat} {scope : Scope} {cl : List (Str × Addr)} {pos : Pos} {use : Option (Value → Sem Unit)} {Q : Value → Shared → Prop} {l : Addr} {vs : List Value} {xs : List α} {ep : Nat}
    (k : Ok w.params I s.heap) (hh : A.handled = none) (hl : I l = some (listO vs ep)) (hn : vs.length ≤ 1000) (hvx : vs.length = xs.length)
    (mono' : ∀ I J v y, R' I v y → le I J → R' J v y)
    (pair : ∀ (i : Nat) (v : Value) (c : α), vs[i]? = some v → xs[i]? = some c → ∃ t n u1 u2, v = .ref t ∧ I t = some (tupO [u1, u2] n) ∧ ∀ I₁ C m₁ mu₁ s₁, le I I₁ → m₁ x = some u1 → m₁ y = some u2 → St w.params [93] s.heap I I₁ C m₁ mu₁ s₁.heap → Same s s₁ →
      wpAny (model prog w) A (eval elt (compEnvC scope cl C env)) (fun y' s₄ => ∃ I₂ m₂, Same s s₄ ∧ le I₁ I₂ ∧ R' I₂ y' c ∧ St w.params [93] s.heap I I₂ C m₂ mu₁ s₄.heap) NoE s₁)
    (hq : ∀ D C I₁ m₁ ys c mu₁ s₁, le I I₁ → All2 (R' I₁) ys xs → St w.params [93] s.heap I I₁ C m₁ ((D, listO ys c) :: mu₁) s₁.heap → Same s s₁ → compPost (model prog w) A E use Q (.ref D) C (.ok .next) s₁)
    (hcell : ∀ y ∈ scope.names, y.2 ≠ .cell) (hkind : scope.kind = .function) (hx : scope.names.lookup x = some .local) (hy : scope.names.lookup y = some .local) (hxy : x ≠ y) :
    CompRestP prog w A E env elt (.Tuple [.Name x p1, .Name y p2] kt tp) iter scope cl pos use Q (.ref l) s := by
  unfold CompRestP
  have hl' : ∀ I₁ h, le I I₁ → InH I₁ h → h.IsList l vs.toArray := fun I₁ h a b => ⟨_, b _ _ (a _ _ hl), rfl, ep, rfl⟩
  refine wpAny_pyIter_list (hl' I _ (le.refl _) k.inh) ?_
  refine comp_begin (env := env) k rfl hcell hkind fun it D C h₁ tk cenv hit S1 e1 e2 => ?_
  rw [e1, e2, ← hit]
  have loop : ∀ s₃ : Shared, s₃ = { s with heap := h₁, toks := tk } →
      codeAny (model prog w) A (.compLoop (.ListComp elt [⟨.Tuple [.Name x p1, .Name y p2] kt tp, iter, [], 0⟩] scope pos) 0 (.ref it) (.ref D) (compEnvC scope cl C env)) (compPost (model prog w) A E use Q (.ref D) C) s₃ := by
    rintro s₃ rfl
    refine LCp.codeAny_compLoop_pair (fun n s' => ∃ i I₁ m₁ ys c oit, Same s s' ∧ i ≤ vs.length ∧ n = vs.length + 1 - i ∧ le I I₁ ∧ All2 (R' I₁) ys (xs.take i) ∧ oit.cls = .type "list_iterator" ∧ oit.data = .fields #[.ref l, .int i 0] ∧
      St w.params [93] s.heap I I₁ C m₁ [(D, lsO ys.toArray c), (it, oit)] s'.heap) ?_ (vs.length + 1) ⟨0, I, _, [], 0, _, Same.mk, Nat.zero_le _, rfl, le.refl _, .nil, rfl, rfl, S1⟩
    rintro n s' ⟨i, I₁, m₁, ys, c, oit, hs, hi, rfl, hle, hj, hc, hd, S'⟩
    have q := S'.own _ (.tail _ (.head _))
    have hit : s'.heap.IsListIter it l i := ⟨_, q.1, hc, hd⟩
    have hl1 := hl' I₁ _ hle S'.ok.inh
    cases hv : vs[i]? with
    | none =>
      have e : i = vs.length := Nat.le_antisymm hi (by simpa using hv)
      subst e
      refine wpAny_pyNext_list_end hh hit hl1 (by simpa using hv) fun h' he => ?_
      have nd := S'.nd
      have S'' := S'.swap.drop.offX (fun b o n e => he b o n e) q.2.1 q.2.2.1 q.2.2.2 (by
        intro hm
        rw [List.map_cons, List.map_nil, List.mem_singleton] at hm
        simp only [List.map_cons, List.map_nil, List.nodup_cons, List.mem_singleton] at nd
        exact nd.1 hm.symm)
      rw [hvx, List.take_length] at hj
      exact hq D C I₁ m₁ ys c [] { s' with heap := h' } hle hj S'' hs.heap
    | some v =>
      have hlt : i < vs.length := (List.getElem?_eq_some_iff.mp hv).1
      have hcx : xs[i]? = some (xs[i]'(hvx ▸ hlt)) := List.getElem?_eq_getElem _
      generalize xs[i]'(hvx ▸ hlt) = cx at hcx
      obtain ⟨ta, tn, u1, u2, rfl, hta, hturn⟩ := pair i v cx hv hcx
      refine wpAny_pyNext_list_item hit hl1 (by simpa using hv) fun h' hit' hs' => ?_
      obtain ⟨oit', e', hc', hd'⟩ := id hit'
      have S2 := (S'.swap.upd hs' e').swap
      dsimp only
      refine wpAny_letOwnedTupleGo_listiter hit' ?_
      refine assign2 (s := { s' with heap := h' }) hh S2 (S2.ok.inh _ _ (hle _ _ hta)) (fun h₂ tk₂ S3 => ?_) (by exact hkind) (lookup_relabel_local hx) (lookup_relabel_local hy) rfl
      refine wpAny_mono (hturn I₁ C _ _ _ hle (by simp [setM, hxy]) (by simp [setM]) S3 (hs.heap.both)) (fun y' s₄ h₄ => ?_) (fun _ _ z => z.elim)
      obtain ⟨I₂, m₂, a, b, c', d⟩ := h₄
      have qd := (d.own _ (.head _)).1
      refine wpAny_list_append_plain ⟨_, qd⟩ (fun h₅ hp₅ hs₅ => ?_) (by have := hj.length; rw [List.length_take] at this; rw [List.size_toArray, sizeLine_eq]; omega)
      obtain ⟨c₅, hp₅⟩ := hp₅
      have S5 := d.upd hs₅ hp₅
      rw [List.push_toArray] at S5
      have ht : xs.take (i + 1) = xs.take i ++ [cx] := by rw [List.take_add_one, hcx]; rfl
      exact ⟨vs.length + 1 - (i + 1), by omega, i + 1, I₂, m₂, ys ++ [y'], c₅, oit', a.heap, hlt, rfl, hle.trans b, by rw [ht]; exact (hj.imp fun _ _ z => mono' _ _ _ _ z b).append (.cons c' .nil), hc', by simpa using hd', S5⟩
  exact codeAny_compStart_list (loop _ rfl) (wpAny_pyIter_listiter (i := 0) ⟨_, (S1.own _ (.tail _ (.head _))).1, rfl, rfl⟩ (loop _ rfl))
end
end Mine

-- part LEqW
set_option maxRecDepth 100000
set_option maxHeartbeats 0
set_option pp.deepTerms false
set_option pp.maxSteps 2500
namespace Mine
open PySem PySem.W PySem.W.X PyProof.Rows PySem.Calls SeqAt
theorem pairs_any {p p' : Program} {w w' : World} {es : List DictEntry} {kvs : List (Int × Value)} (h : Pairs (intKind p w) es kvs) : Pairs (intKind p' w') es kvs := by
  induction h with
  | nil => exact .nil
  | cons h1 h2 _ ih => exact .cons h1 h2 ih
theorem CalO.any {p p' : Program} {w w' : World} {o : Obj} {kvs : List (Int × Value)} (h : CalO p w o kvs) : CalO p' w' o kvs := by
  obtain ⟨es, ep, h1, h2, h3, h4, h5⟩ := h
  exact ⟨es, ep, h1, h2, h3, pairs_any h4, h5⟩
theorem isCal.any {p p' : Program} {w w' : World} {I : Kn} {d : Addr} {c : Int → Option Int} (h : isCal p w I d c) : isCal p' w' I d c := by
  obtain ⟨o, kvs, e, h1, h2⟩ := h
  exact ⟨o, kvs, e, h1.any, h2⟩
theorem valueAt_mem {kvs : List (Int × Value)} (nd : (kvs.map (·.1)).Nodup) {k : Int} {v : Value} (h : (k, v) ∈ kvs) : valueAt kvs k = some v := by
  induction kvs with
  | nil => cases h
  | cons a r ih =>
    rw [List.map_cons, List.nodup_cons] at nd
    unfold valueAt
    rcases List.mem_cons.mp h with e | h
    · subst e; simp
    · have ne : a.1 ≠ k := fun e => nd.1 (e ▸ List.mem_map.mpr ⟨_, h, rfl⟩)
      rw [List.find?_cons_of_neg (by simpa using ne)]
      exact ih nd.2 h
theorem valueAt_key {kvs : List (Int × Value)} {k : Int} {v : Value} (h : valueAt kvs k = some v) : k ∈ kvs.map (·.1) := by
  unfold valueAt at h
  obtain ⟨p, hp, e⟩ := Option.map_eq_some_iff.mp h
  have h1 := List.find?_some hp
  have h2 := List.mem_of_find?_eq_some hp
  exact List.mem_map.mpr ⟨p, h2, by simpa using h1⟩
theorem cal_at {A : Around} {s : Shared} {ka kb : List (Int × Value)} {c : Int → Option Int} (na : (ka.map (·.1)).Nodup) (ha : CalIs ka c) (hb : CalIs kb c) {k : Int} {v : Value} (h : (k, v) ∈ ka) : ∃ y, valueAt kb k = some y ∧ EqAt A s v y true := by
  have e := valueAt_mem na h
  rcases ha k with ⟨e1, _⟩ | ⟨n, t, e1, e2⟩
  · rw [e] at e1; cases e1
  · rw [e] at e1; cases e1
    rcases hb k with ⟨_, e3⟩ | ⟨n', t', e3, e4⟩
    · rw [e2] at e3; cases e3
    · rw [e2] at e4; cases e4
      exact ⟨_, e3, by simpa using EqAt.int_int n t n t'⟩
theorem cal_hits {A : Around} {s : Shared} {ka kb : List (Int × Value)} (h : ∀ k v, (k, v) ∈ ka → ∃ y, valueAt kb k = some y ∧ EqAt A s v y true) : KeqHits A s kb ka true := by
  induction ka with
  | nil => exact .nil
  | cons p r ih =>
    obtain ⟨k, v⟩ := p
    obtain ⟨y, h1, h2⟩ := h k v (.head _)
    have := KeqHits.hit h1 h2 (ih fun k v hm => h k v (.tail _ hm))
    exact this
theorem calEq_len {ka kb : List (Int × Value)} {c : Int → Option Int} (na : (ka.map (·.1)).Nodup) (nb : (kb.map (·.1)).Nodup) (ha : CalIs ka c) (hb : CalIs kb c) : ka.length = kb.length := by
  have sub : ∀ {ka kb : List (Int × Value)}, (ka.map (·.1)).Nodup → CalIs ka c → CalIs kb c → ∀ k ∈ ka.map (·.1), k ∈ kb.map (·.1) := by
    intro ka kb na ha hb k hk
    obtain ⟨⟨k', v⟩, hm, rfl⟩ := List.mem_map.mp hk
    obtain ⟨y, hy, _⟩ := cal_at (A := {}) (s := {}) na ha hb hm
    exact valueAt_key hy
  have p : (ka.map (·.1)).Perm (kb.map (·.1)) := (List.perm_ext_iff_of_nodup na nb).mpr fun k => ⟨sub na ha hb k, sub nb hb ha k⟩
  have := p.length_eq
  simpa using this
section
variable {prog : Program} {w : World} {A : Around} {E : Value → Shared → Prop} {s : Shared} {I : Kn}
theorem all2_at {vs us : List Value} {R : Value → Value → Prop} (h : All2 R vs us) (j : Nat) (h1 : j < vs.toArray.size) (h2 : j < us.toArray.size) : R vs.toArray[j] us.toArray[j] := by
  have h1' : j < vs.length := by simpa using h1
  have h2' : j < us.length := by simpa using h2
  obtain ⟨b, e, r⟩ := h.get (List.getElem?_eq_getElem h1')
  rw [List.getElem?_eq_getElem h2'] at e
  cases e
  simpa using r
theorem eqTup {l b : Addr} {vs us : List Value} {n m : Nat} (hl : s.heap.get? l = some (tupO vs n)) (hb : s.heap.get? b = some (tupO us m)) (hu : A.units < cLine) (he : All2 (fun v u => EqAt A.in1 s v u true) vs us) : EqAt A s (.ref l) (.ref b) true := by
  by_cases q : l = b
  · subst q; exact EqAt.same _
  · refine EqAt.of_refs q ?_
    have := RcAt.tuples (A := A) (e := fun _ => true) ⟨_, hl, rfl, n, rfl⟩ ⟨_, hb, rfl, m, rfl⟩ hu (all2_at he)
    have hz := he.length
    have e : ((List.range (min vs.toArray.size us.toArray.size)).all (fun _ => true) && vs.toArray.size == us.toArray.size) = true := by simp [hz]
    rwa [e] at this
theorem rcList {l b : Addr} {vs us : List Value} {n m : Nat} (hl : s.heap.get? l = some (listO vs n)) (hb : s.heap.get? b = some (listO us m)) (hu : A.units < cLine) (he : All2 (fun v u => EqAt A.in1 s v u true) vs us) : RcAt A s (.ref l) (.ref b) true := by
  have := RcAt.lists (A := A) (e := fun _ => true) ⟨_, hl, rfl, n, rfl⟩ ⟨_, hb, rfl, m, rfl⟩ (by simpa using he.length) hu (all2_at he)
  have e : ((List.range vs.toArray.size).all (fun _ => true)) = true := by simp
  rwa [e] at this
theorem neList {l b : Addr} {vs us : List Value} {n m : Nat} (hl : s.heap.get? l = some (listO vs n)) (hb : s.heap.get? b = some (listO us m)) (hu : A.units < cLine) (he : All2 (fun v u => EqAt A.in1 s v u true) vs us) : RcNeAt A s (.ref l) (.ref b) false := by
  have := RcNeAt.lists (A := A) (e := fun _ => true) ⟨_, hl, rfl, n, rfl⟩ ⟨_, hb, rfl, m, rfl⟩ (by simpa using he.length) hu (all2_at he)
  have e : (!(List.range vs.toArray.size).all (fun _ => true)) = false := by simp
  rwa [e] at this
theorem eqList {l b : Addr} {vs us : List Value} {n m : Nat} (hl : s.heap.get? l = some (listO vs n)) (hb : s.heap.get? b = some (listO us m)) (hu : A.units < cLine) (he : All2 (fun v u => EqAt A.in1 s v u true) vs us) : EqAt A s (.ref l) (.ref b) true := by
  by_cases q : l = b
  · subst q; exact EqAt.same _
  · exact EqAt.of_refs q (rcList hl hb hu he)
theorem calEq_ne1 {a : Addr} {c : Int → Option Int} (k : Ok w.params I s.heap) (h : isCal prog w I a c) : (a == sysModules) = false := by
  refine beq_eq_false_iff_ne.mpr fun e => ?_
  have e1 : I 1 = some _ := k.prog 1 _ (by rfl) (by decide) (by decide) (by decide)
  obtain ⟨o, kvs, ho, ⟨es, ep, h1, h2, h3, h4, h5⟩, _⟩ := h
  rw [e, show I sysModules = I 1 from rfl, e1] at ho
  cases ho
  cases h2
  obtain ⟨k', h', _⟩ := h3 _ (Array.mem_of_getElem? (i := 0) (by rfl))
  cases h'
theorem eqCal {a b : Addr} {c : Int → Option Int} (k : Ok w.params I s.heap) (hu : A.units < cLine) (ha : isCal prog w I a c) (hb : isCal prog w I b c) : EqAt A s (.ref a) (.ref b) true := by
  by_cases q : a = b
  · subst q; exact EqAt.same _
  refine EqAt.of_refs q fun p' w' E' Q hq => ?_
  have na := calEq_ne1 k ha
  have nb := calEq_ne1 k hb
  obtain ⟨oa, ka, ea, ca, ia⟩ := ha.any (p' := p') (w' := w')
  obtain ⟨ob, kb, eb, cb, ib⟩ := hb.any (p' := p') (w' := w')
  obtain ⟨es, ep, h1, h2, h3, h4, h5⟩ := id ca
  obtain ⟨es', ep', g1, g2, g3, g4, g5⟩ := id cb
  refine keq_eq (knd := intKind p' w') (r := true) na nb ⟨oa, es, ep, k.inh _ _ ea, h1, h2, h3, h4, h5⟩ ⟨ob, es', ep', k.inh _ _ eb, g1, g2, g3, g4, g5⟩ hu (fun _ => cal_hits fun _ _ hm => cal_at h5 ia ib hm) ?_
  rw [calEq_len h5 g5 ia ib]
  simpa using hq
theorem eqInt {x : Int} {t u : Tok} : EqAt A s (.int x t) (.int x u) true := by simpa using EqAt.int_int (A := A) (s := s) x t x u
theorem eqStr {x : Str} {t u : Tok} : EqAt A s (.str x t) (.str x u) true := by simpa using EqAt.str_str (A := A) (s := s) x t x u
theorem eqRow {v u : Value} {r : Row} (k : Ok w.params I s.heap) (hr : Room A 2) (hv : isRow prog w I v r) (hu : isRow prog w I u r) : EqAt A s v u true := by
  obtain ⟨a, n, t0, t1, t2, t3, d, t5, rfl, ha, hc⟩ := hv
  obtain ⟨b, m, u0, u1, u2, u3, e, u5, rfl, hb, hd⟩ := hu
  refine eqTup (k.inh _ _ ha) (k.inh _ _ hb) (Room.line hr) ?_
  exact .cons eqInt (.cons eqInt (.cons eqInt (.cons eqInt (.cons (eqCal k (Room.line (n := 1) (Room.in1 hr)) hc hd) (.cons eqStr .nil)))))
theorem eqAll {α : Type} {R : Value → α → Prop} {vs us : List Value} {xs : List α} (h : All2 R vs xs) (h' : All2 R us xs) (e : ∀ v u x, R v x → R u x → EqAt A s v u true) : All2 (fun v u => EqAt A s v u true) vs us := by
  induction h generalizing us with
  | nil => cases h'; exact .nil
  | cons a _ ih => cases h' with | cons b r => exact .cons (e _ _ _ a b) (ih r)
theorem eqRowsR {v u : Value} {rows : List Row} (k : Ok w.params I s.heap) (hr : Room A 3) (hv : isRows prog w I v rows) (hu : isRows prog w I u rows) : RcAt A s v u true := by
  obtain ⟨a, n, vs, rfl, ha, hvs⟩ := hv
  obtain ⟨b, m, us, rfl, hb, hus⟩ := hu
  exact rcList (k.inh _ _ ha) (k.inh _ _ hb) (Room.line hr) (eqAll hvs hus fun _ _ _ x y => eqRow k (Room.in1 hr) x y)
theorem eqRows {v u : Value} {rows : List Row} (k : Ok w.params I s.heap) (hr : Room A 3) (hv : isRows prog w I v rows) (hu : isRows prog w I u rows) : EqAt A s v u true := by
  obtain ⟨a, n, vs, rfl, ha, hvs⟩ := hv
  obtain ⟨b, m, us, rfl, hb, hus⟩ := hu
  exact eqList (k.inh _ _ ha) (k.inh _ _ hb) (Room.line hr) (eqAll hvs hus fun _ _ _ x y => eqRow k (Room.in1 hr) x y)
theorem neTold {v u : Value} {told : List (List Row)} (k : Ok w.params I s.heap) (hr : Room A 4) (hv : isLst (isRows prog w) I v told) (hu : isLst (isRows prog w) I u told) : RcNeAt A s v u false := by
  obtain ⟨a, n, vs, rfl, ha, hvs⟩ := hv
  obtain ⟨b, m, us, rfl, hb, hus⟩ := hu
  exact neList (k.inh _ _ ha) (k.inh _ _ hb) (Room.line hr) (eqAll hvs hus fun _ _ _ x y => eqRows k (Room.in1 hr) x y)
end
end Mine

-- part LLawM
set_option maxRecDepth 100000
set_option maxHeartbeats 0
set_option pp.deepTerms false
set_option pp.maxSteps 2500
namespace Mine
open PySem PySem.W PySem.W.X PyProof.Rows PySem.Calls
/-! what the law's walk wants of the plain side -/
theorem inv_run {ks : List (Nat × Int)} (hd : ∀ k ∈ ks, k.2 ≠ 0) (cs : List Cl) : ∃ pos, Inv ks cs (runR ks cs) pos := by
  induction cs using snoc_ind with
  | h0 => exact ⟨_, inv_start ks⟩
  | h1 cs c ih =>
    obtain ⟨pos, I⟩ := ih
    have := inv_step hd I c
    have e : runR ks (cs ++ [c]) = stepRows ks (runR ks cs) c := by unfold runR; rw [List.foldl_append]; rfl
    rw [← e] at this
    exact ⟨_, this⟩
theorem due_nodup (cs : List Cl) : (dueNames cs).Nodup := by
  obtain ⟨pos, I⟩ := inv_run (ks := []) (fun _ h => nomatch h) cs
  exact I.due.imp fun {a b} h e => by subst e; omega
theorem due_len {cs : List Cl} (hn : ∀ c ∈ cs, c.name ∈ names5) : (dueNames cs).length ≤ 5 := by
  have nd5 : names5.Nodup := by decide
  have p : (dueNames cs).Perm (names5.filter fun x => (dueNames cs).contains x) := by
    refine (List.perm_ext_iff_of_nodup (due_nodup cs) (nd5.sublist List.filter_sublist)).mpr fun x => ?_
    rw [List.mem_filter]
    constructor
    · intro h
      obtain ⟨c, hc, e⟩ := (due_mem cs x).mp h
      exact ⟨e ▸ hn c hc, by simpa using h⟩
    · rintro ⟨_, h⟩; simpa using h
  rw [p.length_eq]
  exact List.length_filter_le ..
theorem clOf_name (x : Int) : (clOf x).name ∈ names5 := by
  have h0 : 0 ≤ x % 600 % 5 := Int.emod_nonneg _ (by decide)
  have h1 : x % 600 % 5 < 5 := Int.emod_lt_of_pos _ (by decide)
  show names5.getD (x % 600 % 5).toNat "" ∈ names5
  generalize x % 600 % 5 = k at h0 h1
  have : k = 0 ∨ k = 1 ∨ k = 2 ∨ k = 3 ∨ k = 4 := by omega
  rcases this with rfl | rfl | rfl | rfl | rfl <;> simp [names5]
theorem clOf_who (x : Int) : 0 ≤ (clOf x).who ∧ (clOf x).who < 4 := ⟨Int.emod_nonneg _ (by decide), Int.emod_lt_of_pos _ (by decide)⟩
theorem cs_names {ns : List Int} : ∀ c ∈ ns.map clOf, c.name ∈ names5 := fun c h => by
  obtain ⟨x, _, rfl⟩ := List.mem_map.mp h; exact clOf_name x
theorem cs_who {ns : List Int} : ∀ c ∈ ns.map clOf, 0 ≤ c.who ∧ c.who < 4 := fun c h => by
  obtain ⟨x, _, rfl⟩ := List.mem_map.mp h; exact clOf_who x
theorem cal_in {m : List Cl} (hw : ∀ c ∈ m, 0 ≤ c.who ∧ c.who < 4) : CalIn (calOf m) := fun k h => by
  unfold calOf at h
  split at h
  · exact absurd rfl h
  · rename_i h'
    obtain ⟨c, hc⟩ := List.exists_mem_of_length_pos (Nat.pos_of_ne_zero h')
    obtain ⟨hm, e⟩ := List.mem_filter.mp hc
    have := hw c hm
    rw [show c.who = k by simpa using e] at this
    exact this
theorem run_len {ks : List (Nat × Int)} (hd : ∀ k ∈ ks, k.2 ≠ 0) {cs : List Cl} (hn : ∀ c ∈ cs, c.name ∈ names5) : (runR ks cs).length ≤ 5 := by
  obtain ⟨pos, I⟩ := inv_run hd cs
  have := I.perm.length_eq
  rw [List.length_map] at this
  rw [this]
  exact due_len hn
theorem run_cal {ks : List (Nat × Int)} (hd : ∀ k ∈ ks, k.2 ≠ 0) {cs : List Cl} (hw : ∀ c ∈ cs, 0 ≤ c.who ∧ c.who < 4) : ∀ r ∈ runR ks cs, CalIn r.cal := fun r hr => by
  obtain ⟨pos, I⟩ := inv_run hd cs
  rw [I.eq r hr]
  exact cal_in fun c hc => hw c (List.mem_filter.mp hc).1
theorem told_at {ks : List (Nat × Int)} (hd : ∀ k ∈ ks, k.2 ≠ 0) {cs : List Cl} {q : List Row} (o : Ordered ks (dueRows cs) q) : q = runR ks cs := by
  obtain ⟨pos, I⟩ := inv_run hd cs
  exact (told_due I o).symm
theorem turn_ok {ks : List (Nat × Int)} (hk : ∀ k ∈ ks, KeyOk k) : ∀ k ∈ turn ks, KeyOk k := fun k h => by
  obtain ⟨k', h', rfl⟩ := List.mem_map.mp h; exact hk k' h'
theorem turn_nz {ks : List (Nat × Int)} (hd : ∀ k ∈ ks, k.2 ≠ 0) : ∀ k ∈ turn ks, k.2 ≠ 0 := fun k h => by
  obtain ⟨k', h', rfl⟩ := List.mem_map.mp h
  have := hd k' h'
  show -k'.2 ≠ 0
  omega
theorem turnStep {ks : List (Nat × Int)} {l : List Row} {z : Row} {qs : List Nat} (h : SortedIdx true l.length (fun i j => decide (cmpK ks (l.getD i z) (l.getD j z) < 0)) qs) :
    (qs.map fun i => l.getD i z).Perm l ∧ ∀ B : Row → Row → Prop, l.Pairwise B → (qs.map fun i => l.getD i z).Pairwise (fun a b => cmpK ks b a < 0 ∨ (cmpK ks b a = 0 ∧ B a b)) := by
  obtain ⟨hp, hw⟩ := h
  refine ⟨?_, fun B hB => ?_⟩
  · have := hp.map (fun i => l.getD i z)
    rwa [range_map] at this
  · rw [List.pairwise_map]
    have mem : ∀ i ∈ qs, i < l.length := fun i hi => List.mem_range.mp (hp.mem_iff.mp hi)
    refine List.Pairwise.imp_of_mem ?_ hw
    intro x y hx hy hxy
    have neg := cmpK_neg ks (l.getD x z) (l.getD y z)
    simp only [if_true, decide_eq_true_eq, decide_eq_false_iff_not] at hxy
    rcases hxy with h1 | ⟨h1, h2⟩
    · exact .inl h1
    · by_cases h3 : cmpK ks (l.getD y z) (l.getD x z) < 0
      · exact .inl h3
      · exact .inr ⟨by omega, pair_get z hB h2 (mem y hy)⟩
theorem turned_at {ks : List (Nat × Int)} (hd : ∀ k ∈ ks, k.2 ≠ 0) {cs : List Cl} {z : Row} {qs : List Nat} {r : List Row} (h : SortedIdx true (runR ks cs).length (fun i j => decide (cmpK ks ((runR ks cs).getD i z) ((runR ks cs).getD j z) < 0)) qs) (o : Ordered (turn ks) (runR ks cs) r) : (qs.map fun i => (runR ks cs).getD i z) = r := by
  obtain ⟨pos, I⟩ := inv_run hd cs
  exact turned_eq I (turnStep h) o
theorem lt_as {ks : List (Nat × Int)} {a b : Row} (h : cmpK ks a b < 0) : ¬ cmpK ks b a < 0 := by
  have := cmpK_neg ks a b; omega
theorem lt_nt {ks : List (Nat × Int)} (hd : ∀ k ∈ ks, k.2 ≠ 0) {a b c : Row} (h : cmpK ks a c < 0) : cmpK ks a b < 0 ∨ cmpK ks b c < 0 := by
  by_cases h1 : cmpK ks a b < 0
  · exact .inl h1
  by_cases h2 : cmpK ks b c < 0
  · exact .inr h2
  exfalso
  have n1 := cmpK_neg ks a b
  have n2 := cmpK_neg ks b c
  have n3 := cmpK_neg ks a c
  have := (cmpK_trans ks hd c b a (by omega) (by omega)).1
  omega
end Mine

-- part LLawT
set_option maxRecDepth 100000
set_option maxHeartbeats 0
set_option pp.deepTerms false
set_option pp.maxSteps 2500
namespace Mine
open PySem PySem.W PySem.W.X PyProof.Rows PySem.Calls
-- what is known at the law's call
noncomputable def I0 (P : Params) : Kn := fun a => if a = 16 ∨ a = 86 ∨ a = 93 then none else (KK P).lookup a
theorem ok0 {P : Params} {h : Heap} (KX : (KK P).In h) : Ok P (I0 P) h where
  inh := fun b o e => by
    unfold I0 at e
    split at e
    · cases e
    · exact KX b o e
  tab := .inl (KX 93 _ (by rfl))
  t93 := by unfold I0; rw [if_pos (.inr (.inr rfl))]
  prog := fun a o e h1 h2 h3 => by unfold I0; rw [if_neg (by rintro (z | z | z); exact h1 z; exact h2 z; exact h3 z)]; exact e
theorem I0_16 (P : Params) : I0 P 16 = none := by unfold I0; rw [if_pos (.inl rfl)]
theorem I0_86 (P : Params) : I0 P 86 = none := by unfold I0; rw [if_pos (.inr (.inl rfl))]
section
variable {P : Params} {X : List Addr} {h₀ h h' H : Heap} {I₀ I I' : Kn} {L T : Addr} {m m' : Str → Option Value} {mu mu' : List (Addr × Obj)}
-- a table of the text has turned: it counts as old from now on
theorem St.growTab {o' : Obj} (S : St P [93] h₀ I₀ I L m mu h) (hT : T ≠ 93) (h0 : ∃ o, h₀.get? T = some o) (g : GrowT T h I h' I') (e' : h'.get? T = some o') (hf : o'.isFreed = false) :
    St P [93] (h₀.update T fun _ => o') I₀ I' L m mu h' := by
  obtain ⟨o0, e0⟩ := h0
  have sb : Heap.SameBut T h₀ (h₀.update T fun _ => o') := Heap.SameBut.update ..
  have eT : (h₀.update T fun _ => o').get? T = some o' := Heap.get?_update_self _ e0 hf
  have hTh : h.get? T = some o0 := S.base _ _ (by simpa using hT) e0
  have nN : ∀ b, h₀.get? b = none → b ≠ T := fun b e z => by rw [z, e0] at e; cases e
  have non : ∀ b, h₀.get? b = none → (h₀.update T fun _ => o').get? b = none := fun b e => (sb.2 b (nN b e)).trans e
  have there' : ∀ b, (∃ o, h₀.get? b = some o) → ∃ o, (h₀.update T fun _ => o').get? b = some o := fun b ⟨o, e⟩ => by
    by_cases z : b = T
    · exact ⟨o', z ▸ eT⟩
    · exact ⟨o, (sb.2 b z).trans e⟩
  refine ⟨g.ok S.ok, ?_, ?_, fun p hp => ?_, S.nd, fun b o n e => ?_, fun b o e => ?_, S.le.trans g.le, non _ S.newL, S.hX, there' _ S.t0, fun b hb => ?_, fun b hb => there' _ (S.x0 b hb)⟩
  · obtain ⟨o, es, ep, e, r⟩ := S.ns
    exact ⟨o, es, ep, g.keep _ _ (nN _ S.newL) S.neL e, r⟩
  · cases e : I' L with
    | none => rfl
    | some o =>
      rcases g.new _ _ e with q | q
      · rw [S.offL] at q; cases q
      · obtain ⟨o, es, ep, x, r⟩ := S.ns; rw [x] at q; cases q
  · have q := S.own p hp
    refine ⟨g.keep _ _ (nN _ q.2.2.2) (S.neM hp) q.1, ?_, q.2.2.1, non _ q.2.2.2⟩
    cases e : I' p.1 with
    | none => rfl
    | some o =>
      rcases g.new _ _ e with z | z
      · rw [q.2.1] at z; cases z
      · rw [q.1] at z; cases z
  · by_cases z : b = T
    · subst z; rw [eT] at e; cases e; exact e'
    · rw [sb.2 b z] at e
      exact g.keep b o z (by simpa using n) (S.base b o n e)
  · rcases g.new _ _ e with q | q
    · rcases S.new _ _ q with q | q
      · exact .inl q
      · exact .inr (non _ q)
    · refine .inr (non _ ?_)
      cases z : h₀.get? b with
      | none => rfl
      | some o2 =>
        by_cases z' : b = 93
        · obtain ⟨o3, e3⟩ := tab_there S.ok.tab; rw [z', e3] at q; cases q
        · rw [S.base _ _ (by simpa using z') z] at q; cases q
  · rw [List.mem_singleton.mp hb]
    exact tab_there g.tab
-- at the law's end the old heap stands but for the tables that grew
theorem St.oldK {ps qs : Array Value} (S : St P [93] ((H.update 16 fun _ => tabObj ps).update 86 fun _ => tabObj qs) I₀ I L m mu h) (KX : (KK P).In H) : OldK H h := by
  have e16 : H.get? 16 = some (tableObj #[]) := KX 16 _ (by rfl)
  have e86 : H.get? 86 = some (tableObj #[]) := KX 86 _ (by rfl)
  have e93 : H.get? 93 = some (tableObj #[]) := KX 93 _ (by rfl)
  have c16 : isCodeTable H 16 := ⟨20, _, _, KX 20 _ (by rfl), by rfl, by rfl, by rfl⟩
  have c86 : isCodeTable H 86 := ⟨90, _, _, KX 90 _ (by rfl), by rfl, by rfl, by rfl⟩
  have c93 : isCodeTable H 93 := ⟨97, _, _, KX 97 _ (by rfl), by rfl, by rfl, by rfl⟩
  have s1 : Heap.SameBut 16 H (H.update 16 fun _ => tabObj ps) := Heap.SameBut.update ..
  have s2 : Heap.SameBut 86 (H.update 16 fun _ => tabObj ps) ((H.update 16 fun _ => tabObj ps).update 86 fun _ => tabObj qs) := Heap.SameBut.update ..
  have f16 : (H.update 16 fun _ => tabObj ps).get? 16 = some (tabObj ps) := Heap.get?_update_self _ e16 rfl
  have f86 : ((H.update 16 fun _ => tabObj ps).update 86 fun _ => tabObj qs).get? 86 = some (tabObj qs) := Heap.get?_update_self _ ((s1.2 86 (by decide)).trans e86) rfl
  have h16 : h.get? 16 = some (tabObj ps) := S.base _ _ (by decide) ((s2.2 16 (by decide)).trans f16)
  have h86 : h.get? 86 = some (tabObj qs) := S.base _ _ (by decide) f86
  have h93 : ∃ rs, h.get? 93 = some (tabObj rs) := by
    rcases S.ok.tab with e | ⟨_, _, _, _, _, e, _⟩
    · exact ⟨_, e⟩
    · exact ⟨_, e⟩
  have rest : ∀ b o, b ≠ 16 → b ≠ 86 → b ≠ 93 → H.get? b = some o → h.get? b = some o := fun b o n1 n2 n3 e => S.base _ _ (by simpa using n3) ((s2.2 b n2).trans ((s1.2 b n1).trans e))
  refine ⟨fun b o e => ?_, fun b o e => ?_⟩
  · by_cases n1 : b = 16
    · subst n1; rw [e16] at e; cases e
      exact .inr (.inl ⟨c16, rfl, #[], ps, rfl, by rw [h16]; simp [tableObj]⟩)
    by_cases n2 : b = 86
    · subst n2; rw [e86] at e; cases e
      exact .inr (.inl ⟨c86, rfl, #[], qs, rfl, by rw [h86]; simp [tableObj]⟩)
    by_cases n3 : b = 93
    · subst n3; rw [e93] at e; cases e
      obtain ⟨rs, h93⟩ := h93
      exact .inr (.inl ⟨c93, rfl, #[], rs, rfl, by rw [h93]; simp [tableObj]⟩)
    exact .inl (rest b o n1 n2 n3 e)
  · by_cases n1 : b = 16
    · exact ⟨_, n1 ▸ h16⟩
    by_cases n2 : b = 86
    · exact ⟨_, n2 ▸ h86⟩
    by_cases n3 : b = 93
    · obtain ⟨rs, h93⟩ := h93; exact ⟨_, n3 ▸ h93⟩
    exact ⟨o, rest b o n1 n2 n3 e⟩
end
section
variable {prog : Program} {w : World} {A : Around} {E : Value → Shared → Prop} {s : Shared} {I : Kn} {env : Env}
-- a def's call with an end of one's own
theorem enterL {fd : FuncData} {f : Addr} {o : Obj} {pos : List Value} {kw : List (Str × Value)} {binds : List (Str × Value)} {body : List Stmt} {Q : Value → Shared → Prop} (mu : Addr → List (Addr × Obj))
    (k : Ok w.params I s.heap) (hr : A.depth < recursionLimit) (ho : I f = some o) (hdata : o.data = .func fd) (hcd : CodeI I fd.code fd.qualname) (hbody : fd.body = .stmts body) (hbind : bindArgs fd ⟨pos, kw⟩ = pure binds)
    (hl : ∀ x ∈ binds, fd.scope.names.lookup x.1 = some .local)
    (h : ∀ L s₁, Same s s₁ → St w.params [93] s.heap I I L (fun x => binds.reverse.lookup x) (mu L) s₁.heap →
      wpAny (model prog w) (A.deeper (envF fd f L))
        (execs body (envF fd f L))
        (fun fl s' => Q (match fl with | .ret v => v | _ => .none) s') NoE s₁)
    (hmu : ∀ L, cellsM (L + 1) fd.scope.names [] = mu L := by intro _; rfl) (hco : fd.scope.isCoroutine = false := by rfl) (hgen : fd.scope.isGenerator = false := by rfl) (hk : fd.scope.kind = .function := by rfl) :
    wpAny (model prog w) A (call (.ref f) pos kw) Q E s := by
  refine wpAny_call (codeAny_call_function hr (k.inh _ _ ho) hdata hco hgen hbody (hcd.rec k.inh) ?_)
  rw [hbind]
  refine wpAny_pure (newEnv_St k hk hl fun h₁ tk S => ⟨nolimit (S.ok), codeAny_func ?_⟩)
  rw [hmu] at S
  exact wpAny_mono (h _ { s with heap := h₁, toks := tk } ⟨_, _, rfl⟩ S) (fun _ _ x => x) fun _ _ f => f.elim
-- l[:n] of a list of the outside
theorem sliceI {value : PySem.Expr} {upper : PySem.Expr} {p pos : Pos} {Q : Value → Shared → Prop}
    (h : wpAny (model prog w) A (eval value env) (fun o s₁ => wpAny (model prog w) A (eval upper env) (fun vu s₃ =>
      ∃ (l : Addr) (vs : List Value) (n : Nat) (u : Tok), o = .ref l ∧ vu = .int ((n : Nat) : Int) u ∧ s₃.heap.IsList l vs.toArray ∧ vs.length ≤ 1000 ∧ Wi Q s₃ (listO (vs.take n) 0)) E s₁) E s)
    (ht : ∀ o r, letTemporaryGo value o r = pure () := by intro _ _; rfl) :
    wpAny (model prog w) A (eval (.Subscript value (.Slice none (some upper) none p) pos) env) Q E s := by
  refine wpAny_Subscript_list_slice (wpAny_mono h (fun o s₁ h₁ => wpAny_evalPart_none (wpAny_evalPart_some (wpAny_mono h₁ (fun vu s₃ h₃ => ?_) fun _ _ e => e))) fun _ _ e => e) ht
  obtain ⟨l, vs, n, u, rfl, rfl, hl, hz, P, X, h₀, I₀, I, L, m, mu, S, hq⟩ := h₃
  have S1 := S.silent (h' := s₃.heap.push { cls := .type "slice", data := .fields #[.none, .int ((n : Nat) : Int) u, .none] }) (fun b o e => Heap.get?_push_of_some _ e)
  refine ⟨l, vs.toArray, none, some ((n : Nat) : Int), rfl, hl, by rw [List.size_toArray, sizeLine_eq]; omega, .none, .int _ _, ?_⟩
  rw [slicePick_upto']
  have := next_push (s := { s₃ with heap := s₃.heap.push { cls := .type "slice", data := .fields #[.none, .int ((n : Nat) : Int) u, .none] } }) (o := listO (vs.take n) 0) (Q := Q) S1 rfl (fun I' a s' l e1 e2 sm S' => hq I' a s' l e1 e2 (Same.trans ⟨_, _, rfl⟩ sm) S')
  dsimp only at this
  rw [Heap.size_push] at this
  simpa using this
theorem getCmp {X : List Addr} {h₀ : Heap} {I₀ : Kn} {L : Addr} {m : Str → Option Value} {mu : List (Addr × Obj)} {cv : Value} {keys : List (Nat × Int)} {Q : Value → Shared → Prop} (S : St w.params X h₀ I₀ I L m mu s.heap) (hc : isComp I cv keys)
    (h : Next w.params X h₀ I₀ I L m mu Q s (methodObj (.ref 51) cv)) : wpAny (model prog w) A (getAttr cv "compare" true) Q E s := by
  obtain ⟨a, d, n, kl, t, hs, rfl, ho, hd, hk⟩ := hc
  obtain ⟨kadr, kn, kvs, rfl, hkl, hks⟩ := hk
  refine get_bind (g := .builtin "function.__get__") (a := .ref 51) (od := some (dictOf [⟨hs, .str "comp_select_list" t, .ref kadr⟩] n)) S.ok.kp ⟨S.ok.inh _ _ ho, rfl, rfl, S.ok.inh _ _ hd⟩ (by kernel_rfl!) (by kernel_rfl!) (by kernel_rfl!) ?_
  refine wpAny_call (fn_get (K := KP w.params) S.ok.kp (by kernel_rfl!) ?_)
  show wpAny _ _ (handedOut _) _ _ _
  rw [handedOut_of (by rfl)]
  refine wpAny_pure ?_
  exact next_push (s := { s with toks := s.toks + 1 }) S rfl (fun I' a s' l e1 e2 sm S' => h I' a s' l e1 e2 (Same.trans ⟨_, _, rfl⟩ sm) S')
end
end Mine

-- part LLaw
set_option maxRecDepth 100000
set_option maxHeartbeats 0
set_option pp.deepTerms false
set_option pp.maxSteps 500
namespace Mine
open PySem PySem.W PySem.W.X PyProof.Rows PySem.Calls
theorem obj77 (P : Params) : ∃ c d fd sl, (KK P).lookup 77 = some ⟨c, d, .func fd, sl⟩ := ⟨_, _, _, _, by rfl⟩
theorem obj84 (P : Params) : ∃ c d fd sl, (KK P).lookup 84 = some ⟨c, d, .func fd, sl⟩ := ⟨_, _, _, _, by rfl⟩
theorem obj21f (P : Params) : ∃ c d fd sl, (KK P).lookup 21 = some ⟨c, d, .func fd, sl⟩ := ⟨_, _, _, _, by rfl⟩
theorem obj91 (P : Params) : ∃ c d fd sl, (KK P).lookup 91 = some ⟨c, d, .func fd, sl⟩ := ⟨_, _, _, _, by rfl⟩
theorem obj30 (P : Params) : ∃ c d fd sl, (KK P).lookup 30 = some ⟨c, d, .func fd, sl⟩ := ⟨_, _, _, _, by rfl⟩
theorem obj103 (P : Params) : ∃ c d fd sl, (KK P).lookup 103 = some ⟨c, d, .func fd, sl⟩ := ⟨_, _, _, _, by rfl⟩
section
variable {prog : Program} {w : World} {A : Around} {E : Value → Shared → Prop} {s : Shared} {I : Kn} {env : Env}
theorem Ok.keep {f : Addr} {c : Value} {d : Option Addr} {fd : FuncData} {sl : Array (Option Value)} (k : Ok w.params I s.heap) (e : (KK w.params).lookup f = some ⟨c, d, .func fd, sl⟩) (h1 : f ≠ 16 := by decide) (h2 : f ≠ 86 := by decide) (h3 : f ≠ 93 := by decide) : Keeps (model prog w) I (.ref f) :=
  keep_fn (k.prog f _ e h1 h2 h3)
theorem lawW {l : Addr} {vs : List Value} {ns : List Int} (KX : (KK w.params).In s.heap) (r : Room A 200) (hl : s.heap.IsList l vs.toArray) (hI : IntsAre vs ns) (hlen : ns.length ≤ 63) :
    wpAny (model prog w) A (call (.ref 108) [.ref l]) (fun v s' => v = .bool true ∧ OldK s.heap s'.heap ∧ Same s s') NoE s := by
  have k := ok0 KX
  have hvl : vs.length ≤ 63 := by rw [hI.length]; exact hlen
  refine enterL (fd := _) (binds := [("script", .ref l)]) (fun L => [(L + 2, cellO none), (L + 1, cellO none)]) k r.lim (k.prog 108 _ (by rfl) (by decide) (by decide) (by decide)) (by rfl) ⟨107, _, _, _, by rfl, k.prog 107 _ (by rfl) (by decide) (by decide) (by decide), by rfl, by rfl⟩ (by rfl) (by rfl) (locs (by rfl)) (fun L s1 hs1 S => ?_)
  refine genQ fun Q0 hQ0 => ?_
  have hl1 : s1.heap.IsList l vs.toArray := by
    obtain ⟨o, ho, hc, n, hd⟩ := hl
    refine ⟨o, S.base _ _ (fun z => ?_) ho, hc, n, hd⟩
    rw [List.mem_singleton.mp z, KX 93 _ (by rfl)] at ho
    cases ho; cases hc
  -- numbers
  refine execs_consN fun Q1 hQ1 => (wpAny_Assign_Name (wpAny_BinOp (sliceI (ld S (v := .ref l) (by rfl) (int' fun t s2 e2 hs2 => ?_)))))
  rw [← e2] at S hl1
  refine ⟨l, vs, 8, t, rfl, rfl, hl1, by omega, wi S fun I2 na s3 le2 hna _ hs3 S3 => ?_⟩
  refine listE ?_
  refine spliced_more (int' fun t1 s4 e4 hs4 => ?_)
  refine spliced_more (int' fun t2 s5 e5 hs5 => ?_)
  refine spliced_more (int' fun t3 s6 e6 hs6 => ?_)
  rw [← e4, ← e5, ← e6] at S3
  refine spliced_none ⟨by show 3 ≤ 100; decide, wi S3 fun I4 nb s7 le4 hnb _ hs7 S7 => ?_⟩
  refine addL S7 (le4 _ _ hna) hnb (by rw [List.length_take]; show _ + 3 ≤ 1000; omega) fun I5 nn s8 le5 hnn _ hs8 S8 => ?_
  refine st' S8 fun s9 hs9 S9 => ?_
  refine hQ1 _ ?_
  have hS9 := (hs1.trans hs2).trans ((hs3.trans (hs4.trans hs5)).trans ((hs6.trans hs7).trans (hs8.trans hs9)))
  clear hs1 hs2 hs3 hs4 hs5 hs6 hs7 hs8 hs9 S S3 S7 S8 e2 e4 e5 e6 hl1
  have hnum : isLst isInt I5 (.ref nn) (ns.take 8 ++ [145, 502, 45]) := ⟨nn, _, _, rfl, hnn, (ints_all2 hI).take 8 |>.append (.cons ⟨_, rfl⟩ (.cons ⟨_, rfl⟩ (.cons ⟨_, rfl⟩ .nil)))⟩
  generalize hNS : ns.take 8 ++ [145, 502, 45] = NS at hnum
  have hNl : NS.length ≤ 11 := by rw [← hNS, List.length_append, List.length_take]; show _ + 3 ≤ 11; omega
  -- keys
  obtain ⟨oc, ood, ofd, osl, e77⟩ := obj77 w.params
  refine execs_consN fun Q2 hQ2 => (wpAny_Assign_Name (Call_Name rfl (ldG S9.ok (v := .ref 77) (by kernel_rfl!) ?_)))
  refine callN (I := I5) (S9.ok.keep e77) (spliced_more (ld S9 (v := .ref nn) (by rfl) (spliced_none ⟨S9.ok.inh, ?_⟩)))
  refine (keysW (A := A.deeper _) S9.ok (Room.deeper (r.mono (by decide))) hnum (by omega)).use' fun kv I10 s10 hs10 g10 hv => ?_
  obtain ⟨keys, hK, hko, hnz, hkl⟩ := hv
  have S10 := (S9.grow g10).swap
  refine stC' S10 (by rfl) fun s11 I11 le11 hkc hs11 S11 => ?_
  refine hQ2 _ ?_
  have l11 : le I5 I11 := g10.le.trans le11
  have hS11 := hS9.trans (hs10.trans hs11)
  have hK11 := hK.mono le11
  clear hs10 hs11 hS9 S9 S10 g10 hK le11
  -- calls
  obtain ⟨oc2, ood2, ofd2, osl2, e84⟩ := obj84 w.params
  refine execs_consN fun Q3 hQ3 => (wpAny_Assign_Name (compN (cl := []) (ld S11 (v := .ref nn) (by rfl) ?_) (by rfl) (by rfl) (by decide) (fun _ => by rfl)))
  have hnum11 := hnum
  obtain ⟨nn', nc, nvs, e, hnn', hnvs⟩ := hnum
  cases e
  refine comp_map (R := isInt) (R' := fun I v x => isCall prog w I v (clOf x)) (fun _ _ _ _ h _ => h) (fun _ _ _ _ h l => h.mono l) S11.ok r.hd (l11 _ _ hnn') (hnvs.imp fun _ _ q => q) (by rw [hnvs.length]; omega) ?_ ?_ (by decide) (by rfl) (by rfl)
  · intro v y Ib C2 mb mub sb hy hr hle hm Sc hs
    obtain ⟨tv, rfl⟩ := hr
    refine Call_Name rfl (ldG Sc.ok (v := .ref 84) (by kernel_rfl!) ?_)
    refine callN (I := Ib) (Sc.ok.keep e84) (spliced_more (ld Sc (v := .int y tv) hm (spliced_none ⟨Sc.ok.inh, ?_⟩)))
    refine (callW (A := A.deeper _) (x := y) (t := tv) Sc.ok (Room.deeper (r.mono (by decide)))).use' fun v I2 s2 hs2 g2 hv => ?_
    exact ⟨I2, _, hs.trans hs2, g2.le, hv, Sc.grow g2⟩
  intro Cl C12 Ib mb cvs cn mub sb hle12 hcv Sc hsc
  refine post_none' Sc hsc fun s12 I12 le12 hCl hs12 g12 => ?_
  refine stC' (S11.grow g12) (by rfl) fun s13 I13 le13 hcc hs13 S13 => ?_
  refine hQ3 _ ?_
  have l13 : le I11 I13 := g12.le.trans le13
  have hcs : All2 (isCall prog w I13) cvs (NS.map clOf) := by
    have : ∀ {vs : List Value} {xs : List Int}, All2 (fun v x => isCall prog w Ib v (clOf x)) vs xs → All2 (isCall prog w I13) vs (xs.map clOf) := by
      intro vs xs h
      induction h with
      | nil => exact .nil
      | cons a _ ih => exact .cons (a.mono (le12.trans le13)) ih
    exact this hcv
  have hClI : I13 Cl = some (listO cvs cn) := le13 _ _ hCl
  have hkc13 := l13 _ _ hkc
  have hK13 := hK11.mono l13
  have hcw : ∀ c ∈ NS.map clOf, 0 ≤ c.who ∧ c.who < 4 := cs_who
  have hcn : ∀ c ∈ NS.map clOf, c.name ∈ names5 := cs_names
  have hcl : (NS.map clOf).length ≤ 11 := by rw [List.length_map]; exact hNl
  generalize NS.map clOf = cs at hcs hcw hcn hcl
  have hS13 := hS11.trans (hs12.trans hs13)
  clear hs12 hs13 hS11 S11 Sc hsc g12 hcv le12 le13 hle12 hCl hnum11 hnvs hnn' hNS hNl hnn hkc hK11
  -- key
  obtain ⟨oc3, ood3, ofd3, osl3, e21⟩ := obj21f w.params
  refine execs_consN fun Q4 hQ4 => (wpAny_Assign_Name (Call_Name rfl (ldG S13.ok (v := .ref 21) (by kernel_rfl!) ?_)))
  refine callN (I := I13) (S13.ok.keep e21) ?_
  refine spliced_more (Attribute_any_ ?_)
  refine Call_Name rfl (ldG S13.ok (v := .ref 54) (by kernel_rfl!) ?_)
  have kp13 : ∀ a o, (KP w.params).lookup a = some o → I13 a = some o := fun a o e =>
    have z := lookup_filter _ a o e
    S13.ok.prog a o z.1 z.2.1 z.2.2.1 z.2.2.2
  have keepTC : Keeps (model prog w) I13 (.ref 54) := fun h hk => keeps_K (K := KP w.params) (by kernel_rfl!) h (fun a o e => hk a o (kp13 a o e))
  obtain ⟨ka, kn, kvs, rfl, hka, hkvs⟩ := id hK13
  refine callN (I := I13) keepTC (spliced_more (ldCell (by rfl) (S13.ok.inh _ _ hkc13) (spliced_none ⟨S13.ok.inh, ?_⟩)))
  refine (mkComp (A := A.deeper _) S13.ok (Room.deeper (r.mono (by decide))) hK13).use' fun cv I14 s14 hs14 g14 hcv => ?_
  have S14 := S13.grow g14
  refine getCmp S14 hcv fun I15 mt s15 le15 hmt _ hs15 S15 => ?_
  refine spliced_none ⟨fun b o e => S15.ok.inh _ _ (le15 _ _ (g14.le _ _ e)), ?_⟩
  have l15 : le I13 I15 := g14.le.trans le15
  have t16 : s15.heap.get? 16 = some (tableObj #[]) := S15.base _ _ (by decide) (KX 16 _ (by rfl))
  have i16 : I15 16 = none := by
    cases q : I15 16 with
    | none => rfl
    | some o =>
      rcases S15.new _ _ q with z | z
      · rw [I0_16] at z; cases z
      · rw [KX 16 _ (by rfl)] at z; cases z
  refine wpAny_mono (noE (keyT (A := A.deeper _) S15.ok (Room.deeper (r.mono (by decide))) t16 i16)) (fun v s16 hv => ?_) fun _ _ e => e
  obtain ⟨C, h16, tk16, cell, rfl, es16, G16, ⟨ps, hps⟩, hKA, hc1, hc2⟩ := hv
  have hs16 : Same s15 s16 := ⟨h16, tk16, es16⟩
  have eh : s16.heap = h16 := by rw [es16]
  rw [← eh] at G16 hps hKA hc2
  have hKc := hKA.known S15.ok.inh hc1 hc2
  have S16 := S15.growTab (by decide) ⟨_, KX 16 _ (by rfl)⟩ G16 hps rfl
  have hKey : isKey' w (frz I15 s15.heap s16.heap) C keys := ⟨mt, cv, hKc, G16.le _ _ hmt, (hcv.mono le15).mono G16.le⟩
  have l16 : le I13 (frz I15 s15.heap s16.heap) := l15.trans G16.le
  generalize frz I15 s15.heap s16.heap = I16 at S16 hKey l16
  refine st' S16 fun s17 hs17 S17 => ?_
  refine hQ4 _ ?_
  have hS17 := hS13.trans ((hs14.trans hs15).trans (hs16.trans hs17))
  clear hS13 hs14 hs15 hs16 hs17 S16 S15 S14 S13 G16 hps hKA hc1 hc2 hKc es16 eh tk16 t16 i16 g14 hcv hmt l15 le15 kp13 keepTC
  -- told
  have sb16 : Heap.SameBut 16 s.heap (s.heap.update 16 fun _ => tabObj ps) := Heap.SameBut.update ..
  have g86 : (s.heap.update 16 fun _ => tabObj ps).get? 86 = some (tableObj #[]) := (sb16.2 86 (by decide)).trans (KX 86 _ (by rfl))
  have t86 : s17.heap.get? 86 = some (tableObj #[]) := S17.base _ _ (by decide) g86
  have i86 : I16 86 = none := by
    cases q : I16 86 with
    | none => rfl
    | some o =>
      rcases S17.new _ _ q with z | z
      · rw [I0_86] at z; cases z
      · rw [g86] at z; cases z
  obtain ⟨oc4, ood4, ofd4, osl4, e30⟩ := obj30 w.params
  obtain ⟨oc5, ood5, ofd5, osl5, e91⟩ := obj91 w.params
  refine execs_consN fun Q5 hQ5 => (wpAny_Assign_Name (Call_Name rfl (ldG S17.ok (v := .ref 30) (by kernel_rfl!) ?_)))
  refine callN (I := I16) (S17.ok.keep e30) ?_
  refine spliced_more (Call_Name rfl (ldG S17.ok (v := .ref 91) (by kernel_rfl!) ?_))
  refine callN (I := I16) (S17.ok.keep e91) (spliced_more (ld S17 (v := .ref C) (by rfl) (spliced_none ⟨S17.ok.inh, ?_⟩)))
  refine wpAny_mono (noE (stepT (A := A.deeper _) S17.ok (Room.deeper (r.mono (by decide))) t86 i86)) (fun v s18 hv => ?_) fun _ _ e => e
  obtain ⟨nx, rfl, hs18, G18, ⟨qs, hqs⟩, hnx⟩ := hv
  have S18 := S17.growTab (by decide) ⟨_, g86⟩ G18 hqs rfl
  have l18 : le I16 (frz I16 s17.heap s18.heap) := G18.le
  generalize frz I16 s17.heap s18.heap = I18 at S18 hnx l18
  refine spliced_more (ldCell (by rfl) (S18.ok.inh _ _ (l18 _ _ (l16 _ _ hcc))) ?_)
  refine spliced_more (tupE ?_)
  refine spliced_more (listE (spliced_none ⟨by decide, wi S18 fun I19 ea s19 le19 hea _ hs19 S19 => ?_⟩))
  refine spliced_more (listE (spliced_none ⟨by decide, wi S19 fun I20 eb s20 le20 heb _ hs20 S20 => ?_⟩))
  refine spliced_none ⟨by show 2 ≤ 100; decide, wi S20 fun I21 sa s21 le21 hsa _ hs21 S21 => ?_⟩
  have l21 : le I18 I21 := le19.trans (le20.trans le21)
  refine spliced_none ⟨fun b o e => S21.ok.inh _ _ (l21 _ _ (l18 _ _ e)), ?_⟩
  have hst : isState prog w I21 (.ref sa) [] [] := ⟨sa, 0, .ref ea, .ref eb, rfl, hsa, ⟨ea, 0, [], rfl, (le20.trans le21) _ _ hea, .nil⟩, ⟨eb, 0, [], rfl, le21 _ _ heb, .nil⟩⟩
  have lA : le I13 I21 := l16.trans (l18.trans l21)
  have hKey21 := hKey.mono (l18.trans l21)
  refine (redW (A := A.deeper _) S21.ok (Room.deeper (r.mono (by decide))) (hnx.mono l21) hKey21 hko hst (lA _ _ hClI) (hcs.imp fun _ _ q => q.mono lA) (by omega) (fun i _ => ?_)).use' fun tv I22 s22 hs22 g22 htv => ?_
  · have e1 : ∀ c ∈ cs.take i, c.name ∈ names5 := fun c hc => hcn c (List.mem_of_mem_take hc)
    have e2 : ∀ c ∈ cs.take i, 0 ≤ c.who ∧ c.who < 4 := fun c hc => hcw c (List.mem_of_mem_take hc)
    have := run_len hnz e1
    exact ⟨by omega, run_cal hnz e2⟩
  refine st' (S21.grow g22) fun s23 hs23 S23 => ?_
  refine hQ5 _ ?_
  have l22 : le I13 I22 := lA.trans g22.le
  have hKey22 := hKey21.mono g22.le
  have hS23 := hS17.trans ((hs18.trans (hs19.trans hs20)).trans (hs21.trans (hs22.trans hs23)))
  clear hS17 hs18 hs19 hs20 hs21 hs22 hs23 S21 S20 S19 S18 S17 G18 hqs hnx hst hsa hea heb hKey hKey21 g22 t86 i86 g86 sb16 l16 l18 l21 le19 le20 le21 lA
  -- told[1] against what is due
  obtain ⟨ta, tn, R, T, rfl, hta, hR, hT⟩ := htv
  have hCl22 := l22 _ _ hClI
  have hcc22 := l22 _ _ hcc
  have hkc22 := l22 _ _ hkc13
  have hK22 := hK13.mono l22
  have hcs22 : All2 (isCall prog w I22) cvs cs := hcs.imp fun _ _ q => q.mono l22
  have hcvl : cvs.length = cs.length := hcs.length
  have hka22 := l22 _ _ hka
  have hkvs22 : All2 (isKey I22) kvs keys := hkvs.imp fun _ _ q => q.mono l22
  clear hcs hClI hcc hkc13 hK13 l22 hka hkvs
  refine execs_consN fun Q6 hQ6 => (wpAny_If (wpAny_isTrue_Compare1 (Subscript_ (ld S23 (v := .ref ta) (by rfl) (int' fun _ s24 e24 hs24 => ?_)))))
  rw [← e24] at S23
  refine item_tupleT ⟨_, S23.ok.inh _ _ hta, rfl, _, rfl⟩ (by decide) (by decide) (by rfl) (by rfl) ?_
  refine compN (cl := [("keys", L + 1), ("calls", L + 2)]) (Call_Name rfl (ldB S23.ok (v := .type "range") (by kernel_rfl!) (by kernel_rfl!) ?_)) (by rfl) (by rfl) (by decide) (fun _ => by rfl)
  refine callN (I := I22) keep_t (spliced_more (int' fun t1 s25 e25 hs25 => spliced_more (wpAny_BinOp (Call_Name rfl (ldB (e25 ▸ S23.ok) (v := .builtin "len") (by kernel_rfl!) (by kernel_rfl!) ?_)))))
  rw [← e25] at S23
  refine callN (I := I22) keep_b (spliced_more (ldCell (by rfl) (S23.ok.inh _ _ hcc22) (spliced_none ⟨S23.ok.inh, ?_⟩)))
  refine lenSt S23 hCl22 (by omega) fun tl s26 hs26 e26 => ?_
  refine int' fun t2 s27 e27 hs27 => add' fun t3 s28 e28 hs28 => spliced_none ?_
  rw [← e26, ← e27, ← e28] at S23
  refine ⟨S23.ok.inh, call_range_2 ?_⟩
  have S29 := S23.silent (h' := s28.heap.push { cls := .type "range", data := .fields #[.int 1 t1, .int ((cvs.length : Int) + 1) t3, .int 1 s28.toks] }) (fun b o e => Heap.get?_push_of_some _ e)
  have hR29 := IsRange.new s28.heap 1 ((cvs.length : Int) + 1) 1 t1 t3 s28.toks
  generalize hs29' : ({ s28 with heap := s28.heap.push { cls := .type "range", data := .fields #[.int 1 t1, .int ((cvs.length : Int) + 1) t3, .int 1 s28.toks] }, toks := s28.toks + 1 } : Shared) = s29
  have eh29 : s28.heap.push { cls := .type "range", data := .fields #[.int 1 t1, .int ((cvs.length : Int) + 1) t3, .int 1 s28.toks] } = s29.heap := by rw [← hs29']
  have hs29 : Same s28 s29 := ⟨_, _, hs29'.symm⟩
  rw [eh29] at S29 hR29
  have hS29 := hS23.trans ((hs24.trans (hs25.trans hs26)).trans (hs27.trans (hs28.trans hs29)))
  clear hs24 hs25 hs26 hs27 hs28 hs29 hS23 S23 eh29 hs29' e24 e25 e26 e27 e28
  obtain ⟨oc6, ood6, ofd6, osl6, e103⟩ := obj103 w.params
  refine comp_range (n := cvs.length) S29.ok r.hd hR29 (by rw [rangeSize_one]; split <;> omega) (small_one (by omega) (by omega) (by omega) (by omega)) (by omega) (by decide) (by rfl) (by rfl) (fun i I ys => All2 (isRows prog w I) ys (toldR keys cs i)) .nil (fun i I ys h => by rw [h.length]; unfold toldR; rw [List.length_map, List.length_range]; exact Nat.le_refl _) ?_ ?_
  · intro i tj Ib Cb mb mub ys sb hi hle hJ hm Sc hsc
    refine Call_Name rfl (ldG Sc.ok (v := .ref 103) (by kernel_rfl!) ?_)
    refine callN (I := Ib) (Sc.ok.keep e103) ?_
    refine spliced_more (sliceI (ldCell (by rfl) (Sc.ok.inh _ _ (hle _ _ hcc22)) (ld Sc (v := .int (1 + (i : Int)) tj) hm ?_)))
    refine ⟨Cl, cvs, i + 1, tj, rfl, by rw [show (1 + (i : Int)) = ((i + 1 : Nat) : Int) by push_cast; omega], ⟨_, Sc.ok.inh _ _ (hle _ _ hCl22), rfl, _, rfl⟩, by omega, wi Sc fun I30 sl s30 le30 hsl _ hs30 S30 => ?_⟩
    refine spliced_more (ldCell (by rfl) (S30.ok.inh _ _ (le30 _ _ (hle _ _ hkc22))) (spliced_none ⟨fun b o e => S30.ok.inh _ _ (le30 _ _ e), ?_⟩))
    have e1 : ∀ c ∈ cs.take (i + 1), c.name ∈ names5 := fun c hc => hcn c (List.mem_of_mem_take hc)
    have e2 : ∀ c ∈ cs.take (i + 1), 0 ≤ c.who ∧ c.who < 4 := fun c hc => hcw c (List.mem_of_mem_take hc)
    refine (dueW (A := A.deeper _) (cs := cs.take (i + 1)) S30.ok (Room.deeper (r.mono (by decide))) ⟨sl, 0, _, rfl, hsl, (hcs22.imp fun _ _ q => q.mono (hle.trans le30)).take (i + 1)⟩ (hK22.mono (hle.trans le30)) hko hnz (by rw [List.length_take]; omega) (by omega) (due_len e1) e2).use' fun v I31 s31 hs31 g31 hv => ?_
    obtain ⟨q, hq, ho⟩ := hv
    have eq := told_at hnz ho
    subst eq
    refine ⟨I31, _, hsc.trans (hs30.trans hs31), le30.trans g31.le, ?_, S30.grow g31⟩
    rw [toldR_succ]
    exact (hJ.imp fun _ _ z => z.mono (le30.trans g31.le)).append (.cons hq .nil)
  intro Dd C32 Ib mb dvs dn mub sb hle32 hdv Sc hsc
  refine post_none' Sc hsc fun s32 I32 le32 hDd hs32 g32 => ?_
  have S32 := S29.grow g32
  rw [hcvl] at hdv
  have hdue : isLst (isRows prog w) I32 (.ref Dd) (toldR keys cs cs.length) := ⟨Dd, dn, dvs, rfl, hDd, hdv.imp fun _ _ q => q.mono le32⟩
  have hT32 : isLst (isRows prog w) I32 T (toldR keys cs cs.length) := isLst.mono hT g32.le fun _ _ x => isRows.mono x g32.le
  refine neTold S32.ok (Room.deeper (r.mono (by decide))) hT32 hdue _ _ _ _ ?_
  refine wpAny_truthy_bool ?_
  rw [if_neg (by decide)]
  refine wpAny_execs_nil ?_
  refine hQ6 _ ?_
  have hS32 := hS29.trans hs32
  have l32 := g32.le
  clear hS29 hs32 S29 Sc hsc hR29 g32 hdue hT32 hdv hDd hle32 le32 hT
  -- turned
  have hkvs32 : All2 (isKey I32) kvs keys := hkvs22.imp fun _ _ q => q.mono l32
  have hkvl : kvs.length = keys.length := hkvs32.length
  refine execs_consN fun Q7 hQ7 => (compAP (cl := []) (ldCell (by rfl) (S32.ok.inh _ _ (l32 _ _ hkc22)) ?_) (by rfl) (by rfl) (by rfl) (by decide) (fun _ => by rfl))
  refine comp_pair (R' := isKey) (xs := turn keys) S32.ok r.hd (l32 _ _ hka22) (by omega) (by unfold turn; rw [List.length_map]; exact hkvl) (fun _ _ _ _ h l => h.mono l) ?_ ?_ (by decide) (by rfl) (by rfl) (by rfl) (by decide)
  · intro i v c hv hc
    obtain ⟨kk, hkk, t0, n0, u1, u2, rfl, ht0⟩ := hkvs32.get hv
    have ec : c = (kk.1, -kk.2) := by
      unfold turn at hc
      rw [List.getElem?_map, hkk] at hc
      cases hc; rfl
    subst ec
    refine ⟨t0, n0, _, _, rfl, ht0, fun Ib Cb mb mub sb hle hm1 hm2 Sc hsc => ?_⟩
    refine tupE ?_
    refine spliced_more (ld Sc (v := .int (kk.1 : Int) u1) hm1 ?_)
    refine spliced_more (wpAny_UnaryOp (ld Sc (v := .int kk.2 u2) hm2 (neg' fun u3 s33 e33 hs33 => ?_)))
    rw [← e33] at Sc
    refine spliced_none ⟨by show 2 ≤ 100; decide, wi Sc fun I34 nt s34 le34 hnt _ hs34 S34 => ?_⟩
    exact ⟨I34, _, hsc.trans (hs33.trans hs34), le34, ⟨nt, 0, u1, u3, rfl, hnt⟩, S34⟩
  intro Td C33 Ib mb tvs tc mub sb hle33 htvs Sc hsc
  refine post_some' S32 Sc hsc (fun s33 I33 le33 hTd hs33 S33 => ?_)
  refine hQ7 _ ?_
  have l33 : le I32 I33 := hle33.trans le33
  have hturn : isKeys I33 (.ref Td) (turn keys) := ⟨Td, tc, tvs, rfl, hTd, htvs.imp fun _ _ q => q.mono le33⟩
  have hS33 := hS32.trans hs33
  have lB : le I22 I33 := l32.trans l33
  have hta33 := lB _ _ hta
  have hKey33 := hKey22.mono lB
  obtain ⟨Ra, Rn, Rvs, rfl, hRa, hRv⟩ := hR
  have hRa33 := lB _ _ hRa
  have hRv33 : All2 (isRow prog w I33) Rvs (runR keys cs) := hRv.imp fun _ _ q => q.mono lB
  have hrl : (runR keys cs).length ≤ 5 := run_len hnz hcn
  have hRvl : Rvs.length = (runR keys cs).length := hRv.length
  clear hS32 hs33 S32 Sc hsc hle33 le33 htvs hTd hRa hRv hkvs32 hkvs22 hka22 hcs22 hK22 hkc22 hcc22 hCl22 hta hKey22 l32 l33 lB
  obtain ⟨mt', cv', hKc, hmt', hcv'⟩ := id hKey33
  obtain ⟨oc7, ood7, ofd7, osl7, e98⟩ := obj98 w.params
  -- the rows of the end sorted once more, turned round
  refine wpAny_execs_cons (wpAny_Return_some (wpAny_Compare1 (Call_NameK (ldB S33.ok (v := .builtin "sorted") (by kernel_rfl!) (by kernel_rfl!) ?_))))
  refine callWith_of (P := InH I33) (by rfl) keep_b ?_
  refine evalArgs_kw2 (by rfl) ?_
  refine spliced_more (Subscript_ (ld S33 (v := .ref ta) (by rfl) (int' fun _ s34 e34 hs34 => ?_)))
  rw [← e34] at S33
  refine item_tupleT ⟨_, S33.ok.inh _ _ hta33, rfl, _, rfl⟩ (by decide) (by decide) (by rfl) (by rfl) ?_
  refine spliced_none ?_
  refine kwAll_cons (ld S33 (v := .ref C) (by rfl) ?_)
  refine kwAll_cons (wpAny_Constant_bool ?_)
  refine kwAll_nil ⟨S33.ok.inh, ?_⟩
  have hgd : ∀ i, i < Rvs.length → ∀ I', le I33 I' → isRow prog w I' (Rvs.getD i Value.none) ((runR keys cs).getD i (zeroRow "")) := fun i hi I' l' => (hRv33.getD (by omega) Value.none (zeroRow "")).mono l'
  refine sortedSt (A := A.deeper _) (q := C) (b := true) (T := .ref C) (KV := fun I kv i => isKi I kv C (Rvs.getD i Value.none)) (lt := fun i j => decide (cmpK keys ((runR keys cs).getD i (zeroRow "")) ((runR keys cs).getD j (zeroRow "")) < 0)) S33 hRa33 (by omega) ?_ (fun _ _ _ _ h l => h.mono l) ?_ (by rfl) (by simp) ?_ ?_ ?_ ?_
  · intro i v sa Ia hv hle ok hsa
    have e : Rvs.getD i Value.none = v := by simp [List.getD, hv]
    rw [e]
    exact mkI ok (Room.in1 (Room.in1 (Room.deeper (r.mono (by decide))))) (hKc.mono hle)
  · rintro Ia kv i h ⟨a, dx, rfl, h1, h2⟩ hk
    have Ii : InstAt h a (instK_ C dx (Rvs.getD i Value.none)) C (some emptyDict) := ⟨hk _ _ h1, rfl, rfl, hk _ _ h2⟩
    exact Ii.type
  · intro i j ki kj sa Ia hi hj h1 h2 hle ok hsa
    exact ltKey ok (Room.in1 (Room.in1 (Room.deeper (r.mono (by decide))))) (hKey33.mono hle) h1 h2 (hgd i hi Ia hle) (hgd j hj Ia hle) hko
  · intro i j hi hj h
    have := lt_as (of_decide_eq_true h)
    exact decide_eq_false this
  · intro i j k' hi hj hk' h
    rcases lt_nt hnz (of_decide_eq_true h) with z | z
    · exact .inl (decide_eq_true z)
    · exact .inr (decide_eq_true z)
  intro D h35 tk35 I35 c35 qs35 le35 hsi S35
  have S36 := S35.freeze
  have le36 := le_put (o := lsO (qs35.map fun i => Rvs.getD i Value.none).toArray c35) (S35.own _ (.head _)).2.1
  have hD36 := put_self I35 D (lsO (qs35.map fun i => Rvs.getD i Value.none).toArray c35)
  have l36 := le35.trans le36
  generalize put I35 D (lsO (qs35.map fun i => Rvs.getD i Value.none).toArray c35) = I36 at S36 le36 hD36 l36
  have hDr : isRows prog w I36 (.ref D) (qs35.map fun i => (runR keys cs).getD i (zeroRow "")) := by
    refine ⟨D, c35, qs35.map fun i => Rvs.getD i Value.none, rfl, hD36, All2.of_map fun i hi => ?_⟩
    exact hgd i (List.mem_range.mp (hsi.1.mem_iff.mp hi)) I36 l36
  rw [hRvl] at hsi
  generalize hs35' : ({ s34 with heap := h35, toks := tk35 } : Shared) = s35
  have eh35 : h35 = s35.heap := by rw [← hs35']
  have hs35 : Same s34 s35 := ⟨_, _, hs35'.symm⟩
  rw [eh35] at S36
  have hS35 := hS33.trans (hs34.trans hs35)
  clear S35 S33 hs35' eh35 hs34 hs35 e34
  refine Call_Name rfl (ldG S36.ok (v := .ref 98) (by kernel_rfl!) ?_)
  refine callN (I := I36) (S36.ok.keep e98) ?_
  refine spliced_more (Subscript_ (ld S36 (v := .ref ta) (by rfl) (int' fun _ s37 e37 hs37 => ?_)))
  rw [← e37] at S36
  refine item_tupleT ⟨_, S36.ok.inh _ _ (l36 _ _ hta33), rfl, _, rfl⟩ (by decide) (by decide) (by rfl) (by rfl) ?_
  refine spliced_more (ld S36 (v := .ref Td) (by rfl) (spliced_none ⟨S36.ok.inh, ?_⟩))
  refine (orderW (A := A.deeper _) S36.ok (Room.deeper (r.mono (by decide))) (Rv := .ref Ra) (rows := runR keys cs) ⟨Ra, Rn, Rvs, rfl, l36 _ _ hRa33, hRv33.imp fun _ _ q => q.mono l36⟩ (hturn.mono l36) (turn_ok hko) (turn_nz hnz) hrl (by unfold turn; rw [List.length_map]; omega)).use' fun v I38 s38 hs38 g38 hv => ?_
  obtain ⟨q, hq, ho⟩ := hv
  have S38 := S36.grow g38
  have eq := turned_at hnz hsi ho
  subst eq
  refine eqRowsR S38.ok (Room.deeper (r.mono (by decide))) (hDr.mono g38.le) hq _ _ _ _ ?_
  exact hQ0 _ _ ⟨rfl, S38.oldK KX, hS35.trans (hs37.trans hs38)⟩
end
end Mine

-- part LFin
open PySem PySem.W PySem.W.X PyProof.Rows
set_option Elab.async false
set_option maxRecDepth 100000
set_option maxHeartbeats 0
set_option pp.deepTerms false
set_option pp.maxSteps 600
theorem PySem.Challenge.cw_mj0111_01_holds : PySem.Challenge.rw_mj0111_01.Holds := by
  refine Mine.hd ?_
  k_fill
  intro w s₀ s₁ mg mb G y fa o pm cd doc dV kV ho hd hcd hD hmg hg args vals as L hpre hlay hrd hwl hlo
  obtain ⟨ZA, ZI, ZN, ZT⟩ := z_facts (fun _ => by rfl) y
  have KX : (Mine.hd.heap_138 w.params).In s₁.heap := InK.keeps w s₀.heap s₁.heap ZI L.keeps
  refine Ground.open G ?_
  intro T B D TE TW
  clear hcd hD hd ho y
  wrow_args hpre hlay hrd hwl hlo
  x_fa T KX hmg
  refine wpAny_mono (Mine.lawW (l := _) (vs := _) (ns := _) KX ⟨rfl, by decide, by decide⟩ (by assumption) (by assumption) (by omega)) (fun v s' hv => ?_) (fun _ _ f => f.elim)
  obtain ⟨rfl, hold, hsame⟩ := hv
  obtain ⟨h', tk, rfl⟩ := hsame
  refine ⟨.inl ⟨_, _, [], rfl, fun _ => rfl, ReadsW.bool true, by first | rfl | wrow_post, fun _ => ⟨List.nodup_nil, fun _ hm => (nomatch hm)⟩⟩, hold, rfl, .of_eq (by assumption)⟩

