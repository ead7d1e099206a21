import PyProof.Rows.All
import Wide.All
import OpenK.AllK
import Wide.FinOn
import PySem.Challenge.RW_mq0494_01
set_option Elab.async false
set_option maxRecDepth 100000
namespace Mine
open PySem PySem.Calls PyProof.Rows PySem.W

/-! ## Heaps -/

def Sub (g h : Heap) : Prop := ∀ b o, g.get? b = some o → h.get? b = some o
theorem Sub.refl (g : Heap) : Sub g g := fun _ _ e => e
theorem Sub.trans {a b c : Heap} (x : Sub a b) (y : Sub b c) : Sub a c := fun q o e => y q o (x q o e)
theorem Sub.push (h : Heap) (o : Obj) : Sub h (h.push o) := fun _ _ e => Heap.get?_push_of_some _ e
theorem Sub.none {a b : Heap} {q : Addr} (x : Sub a b) (e : b.get? q = none) : a.get? q = none := by
  cases h : a.get? q with
  | none => rfl
  | some o => rw [x q o h] at e; cases e
theorem fresh_size {g h : Heap} (x : Sub g h) : g.get? h.objs.size = none := by
  cases e : g.get? h.objs.size with
  | none => rfl
  | some o => exact absurd (Heap.lt_size (x _ _ e)) (Nat.lt_irrefl _)
theorem get?_size (h : Heap) : h.get? h.objs.size = none := fresh_size (Sub.refl h)
theorem hide_sub (h : Heap) (l : List Addr) : Sub (hideAll h l) h := fun _ _ e => of_hideAll l e
theorem sub_hide {g h : Heap} {l : List Addr} (x : Sub g h) (hl : ∀ a ∈ l, g.get? a = none) : Sub g (hideAll h l) := fun b o e =>
  hideAll_get l (x b o e) fun hm => by rw [hl b hm] at e; cases e

/-- what stands in h and not in h₀ -/
def minus (h h₀ : Heap) : Heap := hideAll h ((List.range h₀.objs.size).filter fun a => (h₀.get? a).isSome)
theorem minus_sub (h h₀ : Heap) : Sub (minus h h₀) h := hide_sub _ _
theorem minus_get {h h₀ : Heap} {a : Addr} {o : Obj} (e : h.get? a = some o) (n : h₀.get? a = none) : (minus h h₀).get? a = some o :=
  hideAll_get _ e fun hm => by
    have := (List.mem_filter.mp hm).2
    rw [n] at this; cases this
theorem minus_none {h h₀ : Heap} {a : Addr} {o : Obj} (e : h₀.get? a = some o) : (minus h h₀).get? a = none :=
  hideAll_none _ (List.mem_filter.mpr ⟨List.mem_range.mpr (Heap.lt_size e), by rw [e]; rfl⟩)
theorem of_minus {h h₀ : Heap} {a : Addr} {o : Obj} (e : (minus h h₀).get? a = some o) : h.get? a = some o ∧ h₀.get? a = none := by
  refine ⟨minus_sub _ _ _ _ e, ?_⟩
  cases q : h₀.get? a with
  | none => rfl
  | some o' => rw [minus_none q] at e; cases e
theorem minus_mono {h h' h₀ : Heap} (x : Sub h h') : Sub (minus h h₀) (minus h' h₀) := fun b o e => minus_get (x b o (of_minus e).1) (of_minus e).2
theorem minus_anti {h h₀ h₁ : Heap} (x : Sub h₁ h₀) : Sub (minus h h₀) (minus h h₁) := fun b o e => minus_get (of_minus e).1 (x.none (of_minus e).2)

/-! ## The frame -/

def upd (m : Str → Option Value) (x : Str) (v : Value) : Str → Option Value := fun y => if y = x then some v else m y
theorem upd_self (m : Str → Option Value) (x : Str) (v : Value) : upd m x v x = some v := if_pos rfl
theorem upd_ne {m : Str → Option Value} {x y : Str} {v : Value} (h : y ≠ x) : upd m x v y = m y := if_neg h

def hidden (env : Env) (kp own : List (Addr × Obj)) : List Addr := env.locals :: (env.cells.map (·.2) ++ (own.map (·.1) ++ kp.map (·.1)))

structure Fm (s₀ : Shared) (g : Heap) (kp : List (Addr × Obj)) (env : Env) (m cm : Str → Option Value) (own : List (Addr × Obj)) (s : Shared) : Prop where
  same : ∃ h tk, s = { s₀ with heap := h, toks := tk }
  keep : Sub g s.heap
  ns : s.heap.Ns env.locals m
  cell : ∀ n c, (n, c) ∈ env.cells → s.heap.IsCell c (cm n)
  ow : ∀ p ∈ own, s.heap.get? p.1 = some p.2
  kept : ∀ p ∈ kp, s.heap.get? p.1 = some p.2
  hid : ∀ a ∈ hidden env kp own, g.get? a = none
  apart : (hidden env kp own).Nodup

section
variable {s₀ s : Shared} {g : Heap} {kp own : List (Addr × Obj)} {env : Env} {m cm : Str → Option Value}

theorem Fm.there (F : Fm s₀ g kp env m cm own s) : ∀ a ∈ hidden env kp own, ∃ o, s.heap.get? a = some o := by
  intro a ha
  unfold hidden at ha
  rcases List.mem_cons.mp ha with rfl | ha
  · obtain ⟨o, _, _, h, _⟩ := F.ns; exact ⟨o, h⟩
  rcases List.mem_append.mp ha with ha | ha
  · obtain ⟨⟨n, c⟩, hp, rfl⟩ := List.mem_map.mp ha
    obtain ⟨o, h, _⟩ := F.cell n c hp; exact ⟨o, h⟩
  rcases List.mem_append.mp ha with ha | ha
  · obtain ⟨p, hp, rfl⟩ := List.mem_map.mp ha; exact ⟨_, F.ow p hp⟩
  · obtain ⟨p, hp, rfl⟩ := List.mem_map.mp ha; exact ⟨_, F.kept p hp⟩

/-- a step that keeps all that stands -/
theorem Fm.step (F : Fm s₀ g kp env m cm own s) {h' : Heap} {tk : Nat} (k : Sub s.heap h') : Fm s₀ g kp env m cm own { s with heap := h', toks := tk } where
  same := let ⟨_, _, e⟩ := F.same; ⟨h', tk, by rw [e]⟩
  keep := F.keep.trans k
  ns := F.ns.keeps k
  cell := fun n c h => (F.cell n c h).keeps k
  ow := fun p h => k _ _ (F.ow p h)
  kept := fun p h => k _ _ (F.kept p h)
  hid := F.hid
  apart := F.apart
theorem Fm.tok (F : Fm s₀ g kp env m cm own s) (tk : Nat) : Fm s₀ g kp env m cm own { s with toks := tk } := F.step (h' := s.heap) (Sub.refl _)

theorem Fm.rebase (F : Fm s₀ g kp env m cm own s) {g' : Heap} (k : Sub g' s.heap) (hid : ∀ a ∈ hidden env kp own, g'.get? a = none) : Fm s₀ g' kp env m cm own s :=
  { F with keep := k, hid := hid }

/-- a step that keeps all that stands; what is new is frozen -/
theorem Fm.grow (F : Fm s₀ g kp env m cm own s) {h' : Heap} {tk : Nat} (k : Sub s.heap h') :
    ∃ g', Fm s₀ g' kp env m cm own { s with heap := h', toks := tk } ∧ Sub g g' ∧ Sub (minus h' s.heap) g' := by
  refine ⟨hideAll h' (hidden env kp own), (F.step k).rebase (hide_sub _ _) (fun a ha => hideAll_none _ ha), sub_hide (F.keep.trans k) F.hid, ?_⟩
  intro b o e
  refine hideAll_get _ (of_minus e).1 fun hm => ?_
  obtain ⟨o', h⟩ := F.there b hm
  rw [(of_minus e).2] at h; cases h

theorem Fm.growN (F : Fm s₀ g kp env m cm own s) {h' : Heap} {tk : Nat} (k : Sub s.heap h') :
    ∃ g', Fm s₀ g' kp env m cm own { s with heap := h', toks := tk } ∧ Sub g g' ∧ ∀ a o, s.heap.get? a = none → h'.get? a = some o → g'.get? a = some o := by
  obtain ⟨g', F', k1, k2⟩ := F.grow (tk := tk) k
  exact ⟨g', F', k1, fun a o n e => k2 _ _ (minus_get e n)⟩

theorem Fm.local_ (F : Fm s₀ g kp env m cm own s) : env.locals ∈ hidden env kp own := List.mem_cons_self
theorem apart_locals (F : Fm s₀ g kp env m cm own s) {a : Addr} (h : a ∈ env.cells.map (·.2) ++ (own.map (·.1) ++ kp.map (·.1))) : a ≠ env.locals := fun e =>
  (List.nodup_cons.mp F.apart).1 (e ▸ h)

theorem Fm.storeL (F : Fm s₀ g kp env m cm own s) {x : Str} {v : Value} {h' : Heap} {tk : Nat} (hn : h'.Ns env.locals (fun y => if y = x then some v else m y)) (hs : Heap.SameBut env.locals s.heap h') :
    Fm s₀ g kp env (upd m x v) cm own { s with heap := h', toks := tk } where
  same := let ⟨_, _, e⟩ := F.same; ⟨h', tk, by rw [e]⟩
  keep := fun b o e => (hs.2 b fun q => by rw [q, F.hid _ F.local_] at e; cases e).trans (F.keep b o e)
  ns := hn
  cell := fun n c h => (F.cell n c h).sameBut hs (apart_locals F (List.mem_append_left _ (List.mem_map.mpr ⟨_, h, rfl⟩)))
  ow := fun p h => (hs.2 _ (apart_locals F (List.mem_append_right _ (List.mem_append_left _ (List.mem_map.mpr ⟨_, h, rfl⟩))))).trans (F.ow p h)
  kept := fun p h => (hs.2 _ (apart_locals F (List.mem_append_right _ (List.mem_append_right _ (List.mem_map.mpr ⟨_, h, rfl⟩))))).trans (F.kept p h)
  hid := F.hid
  apart := F.apart

theorem snd_of_fst {α β : Type} : ∀ {l : List (α × β)}, (l.map (·.1)).Nodup → ∀ {x : α} {a b : β}, (x, a) ∈ l → (x, b) ∈ l → a = b
  | [], _, _, _, _, h, _ => nomatch h
  | p :: r, hd, x, a, b, h, hc => by
    simp only [List.map_cons, List.nodup_cons] at hd
    rcases List.mem_cons.mp h with e | h <;> rcases List.mem_cons.mp hc with e' | hc
    · rw [← e] at e'; exact (Prod.mk.inj e').2.symm
    · exact absurd (List.mem_map.mpr ⟨_, hc, by rw [← e]⟩) hd.1
    · exact absurd (List.mem_map.mpr ⟨_, h, by rw [← e']⟩) hd.1
    · exact snd_of_fst hd.2 h hc
theorem fst_of_snd {α β : Type} : ∀ {l : List (α × β)}, (l.map (·.2)).Nodup → ∀ {a b : α} {x : β}, (a, x) ∈ l → (b, x) ∈ l → a = b
  | [], _, _, _, _, h, _ => nomatch h
  | p :: r, hd, x, a, b, h, hc => by
    simp only [List.map_cons, List.nodup_cons] at hd
    rcases List.mem_cons.mp h with e | h <;> rcases List.mem_cons.mp hc with e' | hc
    · rw [← e] at e'; exact (Prod.mk.inj e').1.symm
    · exact absurd (List.mem_map.mpr ⟨_, hc, by rw [← e]⟩) hd.1
    · exact absurd (List.mem_map.mpr ⟨_, h, by rw [← e']⟩) hd.1
    · exact fst_of_snd hd.2 h hc

theorem Fm.storeC (F : Fm s₀ g kp env m cm own s) {x : Str} {c : Addr} {v : Value} {h' : Heap} {tk : Nat} (hc : (x, c) ∈ env.cells) (hd : (env.cells.map (·.1)).Nodup)
    (hv : h'.IsCell c (some v)) (hs : Heap.SameBut c s.heap h') : Fm s₀ g kp env m (upd cm x v) own { s with heap := h', toks := tk } := by
  have hcm : c ∈ env.cells.map (·.2) := List.mem_map.mpr ⟨_, hc, rfl⟩
  have hch : c ∈ hidden env kp own := List.mem_cons_of_mem _ (List.mem_append_left _ hcm)
  have ap := (List.nodup_cons.mp F.apart).2
  obtain ⟨ap1, ap2, ap3⟩ := List.nodup_append.mp ap
  have out : ∀ a ∈ own.map (·.1) ++ kp.map (·.1), a ≠ c := fun a ha e => ap3 c hcm a ha e.symm
  refine ⟨?_, ?_, ?_, ?_, ?_, ?_, F.hid, F.apart⟩
  · exact let ⟨_, _, e⟩ := F.same; ⟨h', tk, by rw [e]⟩
  · exact fun b o e => (hs.2 b fun q => by rw [q, F.hid _ hch] at e; cases e).trans (F.keep b o e)
  · exact F.ns.sameBut hs fun e => (apart_locals F (List.mem_append_left _ hcm)) e.symm
  · intro n c' h
    by_cases hn : n = x
    · subst hn
      have : c' = c := snd_of_fst hd h hc
      subst this
      rw [upd_self]; exact hv
    · rw [upd_ne hn]
      refine (F.cell n c' h).sameBut hs fun e => ?_
      subst e
      exact hn (fst_of_snd ap1 h hc)
  · exact fun p h => (hs.2 _ (out _ (List.mem_append_left _ (List.mem_map.mpr ⟨_, h, rfl⟩)))).trans (F.ow p h)
  · exact fun p h => (hs.2 _ (out _ (List.mem_append_right _ (List.mem_map.mpr ⟨_, h, rfl⟩)))).trans (F.kept p h)

theorem mem_hidden_own {p : Addr × Obj} (h : p ∈ own) : p.1 ∈ hidden env kp own := List.mem_cons_of_mem _ (List.mem_append_right _ (List.mem_append_left _ (List.mem_map.mpr ⟨_, h, rfl⟩)))
theorem mem_hidden_kp {p : Addr × Obj} (h : p ∈ kp) : p.1 ∈ hidden env kp own := List.mem_cons_of_mem _ (List.mem_append_right _ (List.mem_append_right _ (List.mem_map.mpr ⟨_, h, rfl⟩)))

theorem hidden_own_perm (q : Addr × Obj) : (hidden env kp (q :: own)).Perm (q.1 :: hidden env kp own) := by
  unfold hidden
  simp only [List.map_cons, List.cons_append]
  exact (List.Perm.cons _ List.perm_middle).trans (List.Perm.swap _ _ _)
theorem hidden_kp_perm (q : Addr × Obj) : (hidden env (q :: kp) own).Perm (q.1 :: hidden env kp own) := by
  unfold hidden
  simp only [List.map_cons]
  refine List.Perm.trans ?_ (List.Perm.swap _ _ _)
  refine List.Perm.cons _ ?_
  refine List.Perm.trans ?_ (List.perm_middle (l₁ := env.cells.map (·.2)))
  exact List.Perm.append_left _ List.perm_middle

/-- a new object of the frame's own -/
theorem Fm.allocOwn (F : Fm s₀ g kp env m cm own s) (o : Obj) (tk : Nat) (ho : o.isFreed = false) :
    Fm s₀ g kp env m cm ((s.heap.objs.size, o) :: own) { s with heap := s.heap.push o, toks := tk } := by
  have F1 := F.step (tk := tk) (Sub.push s.heap o)
  have hn : s.heap.objs.size ∉ hidden env kp own := fun h => by obtain ⟨o, e⟩ := F.there _ h; rw [get?_size] at e; cases e
  refine { F1 with ow := ?_, hid := ?_, apart := ?_ }
  · intro p hp
    rcases List.mem_cons.mp hp with rfl | hp
    · exact Heap.get?_push_size _ ho
    · exact F1.ow p hp
  · intro a ha
    rcases List.mem_cons.mp ((hidden_own_perm _).mem_iff.mp ha) with rfl | ha
    · exact fresh_size F.keep
    · exact F.hid a ha
  · exact (hidden_own_perm _).nodup_iff.mpr (List.nodup_cons.mpr ⟨hn, F.apart⟩)

/-- an object of the frame's own is changed -/
theorem Fm.change {d : Addr} {o o' : Obj} (F : Fm s₀ g kp env m cm ((d, o) :: own) s) {h' : Heap} {tk : Nat} (hs : Heap.SameBut d s.heap h') (he : h'.get? d = some o') :
    Fm s₀ g kp env m cm ((d, o') :: own) { s with heap := h', toks := tk } := by
  have hperm := hidden_own_perm (env := env) (kp := kp) (own := own) (d, o)
  have nd := List.nodup_cons.mp (hperm.nodup_iff.mp F.apart)
  have ne : ∀ a ∈ hidden env kp own, a ≠ d := fun a ha e => nd.1 (e ▸ ha)
  have hd : d ∈ hidden env kp ((d, o) :: own) := mem_hidden_own (p := (d, o)) List.mem_cons_self
  refine ⟨?_, ?_, ?_, ?_, ?_, ?_, F.hid, F.apart⟩
  · exact let ⟨_, _, e⟩ := F.same; ⟨h', tk, by rw [e]⟩
  · exact fun b o e => (hs.2 b fun q => by rw [q, F.hid _ hd] at e; cases e).trans (F.keep b o e)
  · exact F.ns.sameBut hs (ne _ List.mem_cons_self)
  · exact fun n c h => (F.cell n c h).sameBut hs (ne _ (List.mem_cons_of_mem _ (List.mem_append_left _ (List.mem_map.mpr ⟨_, h, rfl⟩))))
  · intro p hp
    rcases List.mem_cons.mp hp with rfl | hp
    · exact he
    · exact (hs.2 _ (ne _ (mem_hidden_own hp))).trans (F.ow p (List.mem_cons_of_mem _ hp))
  · exact fun p hp => (hs.2 _ (ne _ (mem_hidden_kp hp))).trans (F.kept p hp)

/-- an object of the frame's own is frozen -/
theorem Fm.freeze {d : Addr} {o : Obj} (F : Fm s₀ g kp env m cm ((d, o) :: own) s) : ∃ g', Fm s₀ g' kp env m cm own s ∧ Sub g g' ∧ g'.get? d = some o := by
  have hperm := hidden_own_perm (env := env) (kp := kp) (own := own) (d, o)
  have nd := List.nodup_cons.mp (hperm.nodup_iff.mp F.apart)
  have hid : ∀ a ∈ hidden env kp own, g.get? a = none := fun a ha => F.hid a (hperm.mem_iff.mpr (List.mem_cons_of_mem _ ha))
  refine ⟨hideAll s.heap (hidden env kp own), ⟨F.same, hide_sub _ _, F.ns, F.cell, fun p hp => F.ow p (List.mem_cons_of_mem _ hp), F.kept, fun a ha => hideAll_none _ ha, nd.2⟩, sub_hide F.keep hid, ?_⟩
  exact hideAll_get _ (F.ow (d, o) List.mem_cons_self) nd.1

theorem Fm.swap {p q : Addr × Obj} (F : Fm s₀ g kp env m cm (p :: q :: own) s) : Fm s₀ g kp env m cm (q :: p :: own) s := by
  have hp : (hidden env kp (q :: p :: own)).Perm (hidden env kp (p :: q :: own)) :=
    (hidden_own_perm _).trans (((hidden_own_perm _).cons _).trans ((List.Perm.swap _ _ _).trans (((hidden_own_perm _).symm.cons _).trans (hidden_own_perm _).symm)))
  refine ⟨F.same, F.keep, F.ns, F.cell, ?_, F.kept, fun a ha => F.hid a (hp.mem_iff.mp ha), hp.nodup_iff.mpr F.apart⟩
  intro x hx
  refine F.ow x ?_
  simp only [List.mem_cons] at hx ⊢
  rcases hx with h | h | h
  · exact .inr (.inl h)
  · exact .inl h
  · exact .inr (.inr h)

/-- a thing that stands (an iterator) is kept by all that follows -/
theorem Fm.enter (F : Fm s₀ g kp env m cm own s) {a : Addr} {o : Obj} (e : s.heap.get? a = some o) (hg : g.get? a = none) (hn : a ∉ hidden env kp own) : Fm s₀ g ((a, o) :: kp) env m cm own s := by
  have hperm := hidden_kp_perm (env := env) (kp := kp) (own := own) (a, o)
  refine ⟨F.same, F.keep, F.ns, F.cell, F.ow, ?_, ?_, hperm.nodup_iff.mpr (List.nodup_cons.mpr ⟨hn, F.apart⟩)⟩
  · intro p hp
    rcases List.mem_cons.mp hp with rfl | hp
    · exact e
    · exact F.kept p hp
  · intro b hb
    rcases List.mem_cons.mp (hperm.mem_iff.mp hb) with rfl | hb
    · exact hg
    · exact F.hid b hb
theorem Fm.leave {q : Addr × Obj} (F : Fm s₀ g (q :: kp) env m cm own s) : Fm s₀ g kp env m cm own s ∧ s.heap.get? q.1 = some q.2 ∧ g.get? q.1 = none ∧ q.1 ∉ hidden env kp own := by
  have hperm := hidden_kp_perm (env := env) (kp := kp) (own := own) q
  have nd := List.nodup_cons.mp (hperm.nodup_iff.mp F.apart)
  exact ⟨⟨F.same, F.keep, F.ns, F.cell, F.ow, fun p hp => F.kept p (List.mem_cons_of_mem _ hp), fun a ha => F.hid a (hperm.mem_iff.mpr (List.mem_cons_of_mem _ ha)), nd.2⟩,
    F.kept q List.mem_cons_self, F.hid _ (mem_hidden_kp List.mem_cons_self), nd.1⟩
/-- a step that touches one thing outside of the frame -/
theorem Fm.off (F : Fm s₀ g kp env m cm own s) {a : Addr} {h' : Heap} {tk : Nat} (hg : g.get? a = none) (hn : a ∉ hidden env kp own) (k : ∀ b o, b ≠ a → s.heap.get? b = some o → h'.get? b = some o) :
    Fm s₀ g kp env m cm own { s with heap := h', toks := tk } := by
  have ne : ∀ b ∈ hidden env kp own, b ≠ a := fun b hb e => hn (e ▸ hb)
  refine ⟨?_, ?_, ?_, ?_, ?_, ?_, F.hid, F.apart⟩
  · exact let ⟨_, _, e⟩ := F.same; ⟨h', tk, by rw [e]⟩
  · exact fun b o e => k b o (fun q => by rw [q, hg] at e; cases e) (F.keep b o e)
  · exact F.ns.extBut (fun b o hb e => k b o hb e) (ne _ List.mem_cons_self)
  · intro n c h
    obtain ⟨o, ho, hd⟩ := F.cell n c h
    exact ⟨o, k c o (ne _ (List.mem_cons_of_mem _ (List.mem_append_left _ (List.mem_map.mpr ⟨_, h, rfl⟩)))) ho, hd⟩
  · exact fun p hp => k _ _ (ne _ (mem_hidden_own hp)) (F.ow p hp)
  · exact fun p hp => k _ _ (ne _ (mem_hidden_kp hp)) (F.kept p hp)
end

end Mine

namespace Mine
open PySem PySem.Calls PyProof.Rows PySem.W

def Tr (prog : Program) (w : World) (A : Around) (kp : List (Addr × Obj)) (env : Env) (m cm : Str → Option Value) (own : List (Addr × Obj)) {α : Type} (g : Heap) (t : Sem α) (P : Heap → α → Prop) : Prop :=
  ∀ (s₀ : Shared) (g₁ : Heap) (s : Shared) (Q : α → Shared → Prop) (E : Value → Shared → Prop), Sub g g₁ → Fm s₀ g₁ kp env m cm own s →
    (∀ a g' h' tk, Sub s.heap h' → Sub g₁ g' → Fm s₀ g' kp env m cm own { s with heap := h', toks := tk } → P g' a → Q a { s with heap := h', toks := tk }) →
    wpAny (model prog w) A t Q E s

def Mono {α : Type} (P : Heap → α → Prop) : Prop := ∀ g g' a, Sub g g' → P g a → P g' a

def pI (i : Int) : Heap → Value → Prop := fun _ v => ∃ t, v = .int i t
def pS (x : Str) : Heap → Value → Prop := fun _ v => ∃ t, v = .str x t
def pB (b : Bool) : Heap → Value → Prop := fun _ v => v = .bool b
def pV (u : Value) : Heap → Value → Prop := fun _ v => v = u
def pT (b : Bool) : Heap → Bool → Prop := fun _ c => c = b
theorem mono_I (i : Int) : Mono (pI i) := fun _ _ _ _ h => h
theorem mono_S (x : Str) : Mono (pS x) := fun _ _ _ _ h => h
theorem mono_B (b : Bool) : Mono (pB b) := fun _ _ _ _ h => h
theorem mono_V (u : Value) : Mono (pV u) := fun _ _ _ _ h => h

section
variable {prog : Program} {w : World} {A : Around} {kp own : List (Addr × Obj)} {env : Env} {m cm : Str → Option Value} {g : Heap} {α β γ : Type}

theorem Tr.lift {t : Sem α} {P : Heap → α → Prop} {g' : Heap} (h : Tr prog w A kp env m cm own g t P) (k : Sub g g') : Tr prog w A kp env m cm own g' t P :=
  fun s₀ g₁ s Q E k1 F c => h s₀ g₁ s Q E (k.trans k1) F c
theorem Tr.post {t : Sem α} {P P' : Heap → α → Prop} (h : Tr prog w A kp env m cm own g t P) (hP : ∀ g' a, Sub g g' → P g' a → P' g' a) : Tr prog w A kp env m cm own g t P' :=
  fun s₀ g₁ s Q E k F c => h s₀ g₁ s Q E k F fun a g' h' tk k1 k2 F' p => c a g' h' tk k1 k2 F' (hP g' a (k.trans k2) p)
theorem Tr.two {t : Sem β} {t1 : Sem α} {t2 : α → Sem β} {P : Heap → α → Prop} {R : Heap → β → Prop}
    (rule : ∀ s Q E, wpAny (model prog w) A t1 (fun a s₁ => wpAny (model prog w) A (t2 a) Q E s₁) E s → wpAny (model prog w) A t Q E s)
    (h1 : Tr prog w A kp env m cm own g t1 P) (h2 : ∀ g₁ a, Sub g g₁ → P g₁ a → Tr prog w A kp env m cm own g₁ (t2 a) R) : Tr prog w A kp env m cm own g t R := by
  intro s₀ g₁ s Q E k F c
  refine rule s Q E (h1 s₀ g₁ s _ E k F fun a g' h' tk k1 k2 F' p => ?_)
  exact h2 g' a (k.trans k2) p s₀ g' _ Q E (Sub.refl _) F' fun b g'' h'' tk' k3 k4 F'' r => c b g'' h'' tk' (k1.trans k3) (k2.trans k4) F'' r
theorem Tr.three {t : Sem γ} {t1 : Sem α} {t2 : Sem β} {t3 : α → β → Sem γ} {P : Heap → α → Prop} {P2 : α → Heap → β → Prop} {R : Heap → γ → Prop}
    (rule : ∀ s Q E, wpAny (model prog w) A t1 (fun a s₁ => wpAny (model prog w) A t2 (fun b s₂ => wpAny (model prog w) A (t3 a b) Q E s₂) E s₁) E s → wpAny (model prog w) A t Q E s)
    (h1 : Tr prog w A kp env m cm own g t1 P) (h2 : ∀ g₁ a, Sub g g₁ → P g₁ a → Tr prog w A kp env m cm own g₁ t2 (P2 a))
    (h3 : ∀ g₂ a b, Sub g g₂ → P2 a g₂ b → Tr prog w A kp env m cm own g₂ (t3 a b) R) : Tr prog w A kp env m cm own g t R := by
  intro s₀ g₁ s Q E k F c
  refine rule s Q E (h1 s₀ g₁ s _ E k F fun a g' h' tk k1 k2 F' p => ?_)
  refine h2 g' a (k.trans k2) p s₀ g' _ _ E (Sub.refl _) F' fun b g'' h'' tk' k3 k4 F'' r => ?_
  exact h3 g'' a b (k.trans (k2.trans k4)) r s₀ g'' _ Q E (Sub.refl _) F'' fun d g3 h3 tk3 k5 k6 F3 r3 => c d g3 h3 tk3 (k1.trans (k3.trans k5)) (k2.trans (k4.trans k6)) F3 r3
theorem Tr.prim {t : Sem α} {P : α → Prop}
    (h : ∀ s₀ g₁ s Q E, Sub g g₁ → Fm s₀ g₁ kp env m cm own s → (∀ a tk, P a → Q a { s with toks := tk }) → wpAny (model prog w) A t Q E s) : Tr prog w A kp env m cm own g t (fun _ a => P a) :=
  fun s₀ g₁ s Q E k F c => h s₀ g₁ s Q E k F fun a tk p => c a g₁ s.heap tk (Sub.refl _) (Sub.refl _) (F.tok tk) p
theorem Tr.alloc {t : Sem α} {P : Heap → α → Prop} (hm : Mono P)
    (h : ∀ s₀ g₁ s Q E, Sub g g₁ → Fm s₀ g₁ kp env m cm own s → (∀ a h' tk, Sub s.heap h' → P (minus h' s.heap) a → Q a { s with heap := h', toks := tk }) → wpAny (model prog w) A t Q E s) :
    Tr prog w A kp env m cm own g t P := by
  intro s₀ g₁ s Q E k F c
  refine h s₀ g₁ s Q E k F fun a h' tk k1 p => ?_
  obtain ⟨g', F', k2, k3⟩ := F.grow (tk := tk) k1
  exact c a g' h' tk k1 k2 F' (hm _ _ _ k3 p)

/-! ### names, constants -/
theorem ev_int {i : Int} {k : Nat} {pos : Pos} : Tr prog w A kp env m cm own g (eval (.Constant (.int i) k pos) env) (pI i) :=
  Tr.prim fun _ _ _ _ _ _ _ c => wpAny_Constant_int (c _ _ ⟨_, rfl⟩)
theorem ev_str {x : Str} {k : Nat} {pos : Pos} : Tr prog w A kp env m cm own g (eval (.Constant (.str x) k pos) env) (pS x) :=
  Tr.prim fun _ _ _ _ _ _ _ c => wpAny_Constant_str (c _ _ ⟨_, rfl⟩)
theorem ev_bool {b : Bool} {k : Nat} {pos : Pos} : Tr prog w A kp env m cm own g (eval (.Constant (.bool b) k pos) env) (pB b) :=
  Tr.prim fun _ _ s _ _ _ _ c => wpAny_Constant_bool (c _ s.toks rfl)
theorem ev_loc {x : Str} {pos : Pos} {v : Value} (hv : m x = some v) (hl : env.kindOf x = some .local) (hk : env.scope.kind = .function) (hd : (x == ("__debug__" : Str)) = false) :
    Tr prog w A kp env m cm own g (eval (.Name x pos) env) (pV v) :=
  Tr.prim fun _ _ s _ _ _ F c => wpAny_Name (wpAny_loadName_local hk hl F.ns hv (c _ s.toks rfl)) hd
theorem ev_cell {x : Str} {pos : Pos} {v : Value} {a : Addr} (hv : cm x = some v) (hl : env.kindOf x = some .cell) (hc : env.cells.lookup x = some a) (hk : env.scope.kind = .function) (hd : (x == ("__debug__" : Str)) = false) :
    Tr prog w A kp env m cm own g (eval (.Name x pos) env) (pV v) :=
  Tr.prim fun _ _ s _ _ _ F c => wpAny_Name (wpAny_loadName_cell hk hl hc (hv ▸ F.cell x a (mem_of_lookup hc)) (c _ s.toks rfl)) hd
theorem ev_glob {x : Str} {pos : Pos} {v : Value} {mg : Str → Option Value} (hg : g.Ns env.globals mg) (hv : mg x = some v) (hl : env.kindOf x = some .globalImplicit) (hk : env.scope.kind = .function) (hd : (x == ("__debug__" : Str)) = false) :
    Tr prog w A kp env m cm own g (eval (.Name x pos) env) (pV v) :=
  Tr.prim fun _ _ s _ _ k F c => Name_function_global hk hl (loadGlobal_global (hg.keeps (k.trans F.keep)) hv (c _ s.toks rfl)) hd
theorem ev_bi {x : Str} {pos : Pos} {v : Value} {mg mb : Str → Option Value} (hg : g.Ns env.globals mg) (hn : mg x = none) (hb : g.Ns env.builtins mb) (hv : mb x = some v) (hl : env.kindOf x = some .globalImplicit)
    (hk : env.scope.kind = .function) (hd : (x == ("__debug__" : Str)) = false) : Tr prog w A kp env m cm own g (eval (.Name x pos) env) (pV v) :=
  Tr.prim fun _ _ s _ _ k F c => Name_function_global hk hl (loadGlobal_builtin (hg.keeps (k.trans F.keep)) hn (hb.keeps (k.trans F.keep)) hv (c _ s.toks rfl)) hd

/-! ### arithmetic -/
theorem ev_binI {l r : Expr} {pos : Pos} {a b c : Int} {op : Operator} (hl : Tr prog w A kp env m cm own g (eval l env) (pI a)) (hr : Tr prog w A kp env m cm own g (eval r env) (pI b))
    (hop : ∀ t u s Q E, (∀ v tk, Q (.int c v) { s with toks := tk }) → wpAny (model prog w) A (binaryOp op (.int a t) (.int b u)) Q E s) :
    Tr prog w A kp env m cm own g (eval (.BinOp l op r pos) env) (pI c) := by
  refine Tr.three (P2 := fun x _ y => pI a g x ∧ pI b g y) (fun s Q E h => wpAny_BinOp h) hl (fun g₁ x k hx => (hr.lift k).post fun _ y _ hy => ⟨hx, hy⟩) ?_
  rintro g₂ _ _ k ⟨⟨t, rfl⟩, ⟨u, rfl⟩⟩
  exact Tr.prim fun _ _ s Q E _ _ cc => hop t u s Q E fun v tk => cc _ _ ⟨_, rfl⟩
theorem ev_add {l r : Expr} {pos : Pos} {a b : Int} (hl : Tr prog w A kp env m cm own g (eval l env) (pI a)) (hr : Tr prog w A kp env m cm own g (eval r env) (pI b)) :
    Tr prog w A kp env m cm own g (eval (.BinOp l .Add r pos) env) (pI (a + b)) := ev_binI hl hr fun _ _ _ _ _ c => add_int (c _ _)
theorem ev_sub {l r : Expr} {pos : Pos} {a b : Int} (hl : Tr prog w A kp env m cm own g (eval l env) (pI a)) (hr : Tr prog w A kp env m cm own g (eval r env) (pI b)) :
    Tr prog w A kp env m cm own g (eval (.BinOp l .Sub r pos) env) (pI (a - b)) := ev_binI hl hr fun _ _ _ _ _ c => sub_int (c _ _)
theorem ev_mod {l r : Expr} {pos : Pos} {a b : Int} (hb : b ≠ 0) (hl : Tr prog w A kp env m cm own g (eval l env) (pI a)) (hr : Tr prog w A kp env m cm own g (eval r env) (pI b)) :
    Tr prog w A kp env m cm own g (eval (.BinOp l .Mod r pos) env) (pI (a.fmod b)) := ev_binI hl hr fun _ _ _ _ _ c => mod_int hb (c _ _)
theorem ev_addS {l r : Expr} {pos : Pos} {x y : Str} (hsz : x.length + y.length ≤ sizeLine) (hl : Tr prog w A kp env m cm own g (eval l env) (pS x)) (hr : Tr prog w A kp env m cm own g (eval r env) (pS y)) :
    Tr prog w A kp env m cm own g (eval (.BinOp l .Add r pos) env) (pS (x ++ y)) := by
  refine Tr.three (P2 := fun v _ u => pS x g v ∧ pS y g u) (fun s Q E h => wpAny_BinOp h) hl (fun g₁ _ k hx => (hr.lift k).post fun _ _ _ hy => ⟨hx, hy⟩) ?_
  rintro g₂ _ _ k ⟨⟨t, rfl⟩, ⟨u, rfl⟩⟩
  exact Tr.prim fun _ _ s Q E _ _ c => SB.add (fun _ _ => c _ _ ⟨_, rfl⟩) hsz

/-! ### tests -/
theorem te_cmp {l r : Expr} {op : CmpOp} {pos : Pos} {whole : Sem Value} {P : Heap → Value → Prop} {P2 : Value → Heap → Value → Prop} {b : Bool} (hm : behindInMarks op r = false)
    (hl : Tr prog w A kp env m cm own g (eval l env) P) (hr : ∀ g₁ a, Sub g g₁ → P g₁ a → Tr prog w A kp env m cm own g₁ (eval r env) (P2 a))
    (hop : ∀ g₂ a c, Sub g g₂ → P2 a g₂ c → Tr prog w A kp env m cm own g₂ (compareOp op a c) (pB b)) : Tr prog w A kp env m cm own g (isTrue (.Compare l [op] [r] pos) env whole) (pT b) := by
  intro s₀ g₁ s Q E k F c
  refine wpAny_isTrue_Compare1 (hl s₀ g₁ s _ E k F fun a g' h' tk k1 k2 F' p => ?_) hm
  refine hr g' a (k.trans k2) p s₀ g' _ _ E (Sub.refl _) F' fun b2 g'' h'' tk' k3 k4 F'' r2 => ?_
  refine hop g'' a b2 (k.trans (k2.trans k4)) r2 s₀ g'' _ _ E (Sub.refl _) F'' fun d g3 h3 tk3 k5 k6 F3 r3 => ?_
  cases r3
  exact wpAny_truthy_bool (c _ g3 h3 tk3 (k1.trans (k3.trans k5)) (k2.trans (k4.trans k6)) F3 rfl)
theorem te_cmpI {l r : Expr} {op : CmpOp} {pos : Pos} {whole : Sem Value} {a b : Int} {c : Bool} (hl : Tr prog w A kp env m cm own g (eval l env) (pI a)) (hr : Tr prog w A kp env m cm own g (eval r env) (pI b))
    (hm : behindInMarks op r = false) (hop : ∀ t u s Q E, Q (.bool c) s → wpAny (model prog w) A (compareOp op (.int a t) (.int b u)) Q E s) :
    Tr prog w A kp env m cm own g (isTrue (.Compare l [op] [r] pos) env whole) (pT c) := by
  refine te_cmp (P2 := fun x _ y => pI a g x ∧ pI b g y) hm hl (fun g₁ x k hx => (hr.lift k).post fun _ y _ hy => ⟨hx, hy⟩) ?_
  rintro g₂ _ _ k ⟨⟨t, rfl⟩, ⟨u, rfl⟩⟩
  exact Tr.prim fun _ _ s Q E _ _ cc => hop t u s Q E (cc _ s.toks rfl)
theorem te_cmpS {l r : Expr} {op : CmpOp} {pos : Pos} {whole : Sem Value} {a b : Str} {c : Bool} (hl : Tr prog w A kp env m cm own g (eval l env) (pS a)) (hr : Tr prog w A kp env m cm own g (eval r env) (pS b))
    (hm : behindInMarks op r = false) (hop : ∀ t u s Q E, Q (.bool c) s → wpAny (model prog w) A (compareOp op (.str a t) (.str b u)) Q E s) :
    Tr prog w A kp env m cm own g (isTrue (.Compare l [op] [r] pos) env whole) (pT c) := by
  refine te_cmp (P2 := fun x _ y => pS a g x ∧ pS b g y) hm hl (fun g₁ x k hx => (hr.lift k).post fun _ y _ hy => ⟨hx, hy⟩) ?_
  rintro g₂ _ _ k ⟨⟨t, rfl⟩, ⟨u, rfl⟩⟩
  exact Tr.prim fun _ _ s Q E _ _ cc => hop t u s Q E (cc _ s.toks rfl)
theorem te_eqI {l r : Expr} {pos : Pos} {whole : Sem Value} {a b : Int} (hl : Tr prog w A kp env m cm own g (eval l env) (pI a)) (hr : Tr prog w A kp env m cm own g (eval r env) (pI b)) (hm : behindInMarks .Eq r = false) :
    Tr prog w A kp env m cm own g (isTrue (.Compare l [.Eq] [r] pos) env whole) (pT (a == b)) := te_cmpI hl hr hm fun _ _ _ _ _ h => eq_int h
theorem te_ltI {l r : Expr} {pos : Pos} {whole : Sem Value} {a b : Int} (hl : Tr prog w A kp env m cm own g (eval l env) (pI a)) (hr : Tr prog w A kp env m cm own g (eval r env) (pI b)) (hm : behindInMarks .Lt r = false) :
    Tr prog w A kp env m cm own g (isTrue (.Compare l [.Lt] [r] pos) env whole) (pT (decide (a < b))) := te_cmpI hl hr hm fun _ _ _ _ _ h => lt_int h
theorem te_neI {l r : Expr} {pos : Pos} {whole : Sem Value} {a b : Int} (hl : Tr prog w A kp env m cm own g (eval l env) (pI a)) (hr : Tr prog w A kp env m cm own g (eval r env) (pI b)) (hm : behindInMarks .NotEq r = false) :
    Tr prog w A kp env m cm own g (isTrue (.Compare l [.NotEq] [r] pos) env whole) (pT (a != b)) := te_cmpI hl hr hm fun _ _ _ _ _ h => ne_int h
theorem te_eqS {l r : Expr} {pos : Pos} {whole : Sem Value} {a b : Str} (hl : Tr prog w A kp env m cm own g (eval l env) (pS a)) (hr : Tr prog w A kp env m cm own g (eval r env) (pS b)) (hm : behindInMarks .Eq r = false) :
    Tr prog w A kp env m cm own g (isTrue (.Compare l [.Eq] [r] pos) env whole) (pT (a == b)) := te_cmpS hl hr hm fun _ _ _ _ _ h => PyProof.Rows.eq_str h
theorem te_neS {l r : Expr} {pos : Pos} {whole : Sem Value} {a b : Str} (hl : Tr prog w A kp env m cm own g (eval l env) (pS a)) (hr : Tr prog w A kp env m cm own g (eval r env) (pS b)) (hm : behindInMarks .NotEq r = false) :
    Tr prog w A kp env m cm own g (isTrue (.Compare l [.NotEq] [r] pos) env whole) (pT (a != b)) := te_cmpS hl hr hm fun _ _ _ _ _ h => PyProof.Rows.ne_str h
/-- a name that holds a bool -/
theorem te_bool {e : Expr} {b : Bool} (h : Tr prog w A kp env m cm own g (eval e env) (pV (.bool b))) (he : isTrue e env (eval e env) = (do let v ← eval e env; standAt e.pos; holding [v] (truthy v))) :
    Tr prog w A kp env m cm own g (isTrue e env (eval e env)) (pT b) := by
  refine Tr.two (fun s Q E h => wpAny_isTrue_value h he) h ?_
  rintro g₁ _ _ rfl
  exact Tr.prim fun _ _ s Q E _ _ c => wpAny_truthy_bool (c _ s.toks rfl)
theorem te_str {e : Expr} {x : Str} (h : Tr prog w A kp env m cm own g (eval e env) (pS x)) (hx : x.length < 2 ^ 62) (he : isTrue e env (eval e env) = (do let v ← eval e env; standAt e.pos; holding [v] (truthy v))) :
    Tr prog w A kp env m cm own g (isTrue e env (eval e env)) (pT (x.length != 0)) := by
  refine Tr.two (fun s Q E h => wpAny_isTrue_value h he) h ?_
  rintro g₁ _ _ ⟨t, rfl⟩
  refine Tr.prim fun _ _ s Q E _ _ c => P.truthy_str (by omega) (c _ _ ?_)
  rw [Bool.eq_iff_iff]; simp
theorem te_and {x y : Expr} {pos : Pos} {whole : Sem Value} {a b : Bool} (hx : Tr prog w A kp env m cm own g (isTrue x env (eval x env)) (pT a)) (hy : a = true → Tr prog w A kp env m cm own g (isTrue y env (eval y env)) (pT b)) :
    Tr prog w A kp env m cm own g (isTrue (.BoolOp .And [x, y] pos) env whole) (pT (a && b)) := by
  intro s₀ g₁ s Q E k F c
  refine wpAny_isTrue_BoolOp (wpAny_allTrue_And_cons (hx s₀ g₁ s _ E k F fun a' g' h' tk k1 k2 F' p => ?_))
  cases p
  cases a with
  | false => exact c false g' h' tk k1 k2 F' rfl
  | true =>
    simp only [if_true]
    refine wpAny_allTrue_And_cons (((hy rfl).lift (k.trans k2)) s₀ g' _ _ E (Sub.refl _) F' fun b' g'' h'' tk' k3 k4 F'' p => ?_)
    cases p
    cases b with
    | false => exact c false g'' h'' tk' (k1.trans k3) (k2.trans k4) F'' rfl
    | true => exact wpAny_allTrue_And_nil (c true g'' h'' tk' (k1.trans k3) (k2.trans k4) F'' rfl)
theorem ev_if {test x y : Expr} {pos : Pos} {b : Bool} {P : Heap → Value → Prop} (ht : Tr prog w A kp env m cm own g (isTrue test env (eval test env)) (pT b))
    (h1 : b = true → Tr prog w A kp env m cm own g (eval x env) P) (h2 : b = false → Tr prog w A kp env m cm own g (eval y env) P) : Tr prog w A kp env m cm own g (eval (.IfExp test x y pos) env) P := by
  intro s₀ g₁ s Q E k F c
  refine wpAny_IfExp (ht s₀ g₁ s _ E k F fun a' g' h' tk k1 k2 F' p => ?_)
  cases p
  cases b with
  | true => exact ((h1 rfl).lift (k.trans k2)) s₀ g' _ _ E (Sub.refl _) F' fun b' g'' h'' tk' k3 k4 F'' p => c b' g'' h'' tk' (k1.trans k3) (k2.trans k4) F'' p
  | false => exact ((h2 rfl).lift (k.trans k2)) s₀ g' _ _ E (Sub.refl _) F' fun b' g'' h'' tk' k3 k4 F'' p => c b' g'' h'' tk' (k1.trans k3) (k2.trans k4) F'' p

/-! ### arguments, calls -/
def AllP : List (Heap → Value → Prop) → Heap → List Value → Prop
  | [], _, vs => vs = []
  | P :: Ps, g, vs => ∃ v vs', vs = v :: vs' ∧ P g v ∧ AllP Ps g vs'
theorem args_nil {pos : Pos} : Tr prog w A kp env m cm own g (spliced (backTo pos (starEach [] env))) (AllP []) :=
  Tr.prim fun _ _ s _ _ _ _ c => wpAny_items_nil (c _ s.toks rfl)
theorem args_cons {pos : Pos} {e : Expr} {rest : List Expr} {P : Heap → Value → Prop} {Ps : List (Heap → Value → Prop)} (hm : Mono P) (h1 : Tr prog w A kp env m cm own g (eval e env) P)
    (h2 : Tr prog w A kp env m cm own g (spliced (backTo pos (starEach rest env))) (AllP Ps)) (he : starEach (e :: rest) env = (false, eval e env) :: starEach rest env) :
    Tr prog w A kp env m cm own g (spliced (backTo pos (starEach (e :: rest) env))) (AllP (P :: Ps)) := by
  intro s₀ g₁ s Q E k F c
  refine wpAny_items_cons (h1 s₀ g₁ s _ E k F fun a g' h' tk k1 k2 F' p => ?_) he
  refine (h2.lift (k.trans k2)) s₀ g' _ _ E (Sub.refl _) F' fun b' g'' h'' tk' k3 k4 F'' r => ?_
  exact c _ g'' h'' tk' (k1.trans k3) (k2.trans k4) F'' ⟨a, b', rfl, hm _ _ _ k4 p, r⟩
theorem ev_list {elts : List Expr} {pos : Pos} {Ps : List (Heap → Value → Prop)} {P : Heap → Value → Prop} (ha : Tr prog w A kp env m cm own g (spliced (backTo pos (starEach elts env))) (AllP Ps))
    (hlen : ∀ g' vs, AllP Ps g' vs → vs.length ≤ sizeLine) (hP : ∀ g' vs, AllP Ps g' vs → ∀ g'' a, Sub g' g'' → g''.get? a = some { cls := .type "list", data := .seq vs.toArray } → P g'' (.ref a)) :
    Tr prog w A kp env m cm own g (eval (.List elts pos) env) P := by
  intro s₀ g₁ s Q E k F c
  refine wpAny_List (ha s₀ g₁ s _ E k F fun vs g' h' tk k1 k2 F' p => ⟨hlen g' vs p, ?_⟩)
  obtain ⟨g'', F'', k3, hn⟩ := F'.growN (tk := tk) (Sub.push h' { cls := .type "list", data := .seq vs.toArray })
  exact c _ g'' _ tk (k1.trans (Sub.push _ _)) (k2.trans k3) F'' (hP g' vs p g'' _ k3 (hn _ _ (get?_size h') (Heap.get?_push_size _ rfl)))
theorem ev_tuple {elts : List Expr} {k₀ : Nat} {pos : Pos} {Ps : List (Heap → Value → Prop)} {P : Heap → Value → Prop} (ha : Tr prog w A kp env m cm own g (spliced (backTo pos (starEach elts env))) (AllP Ps))
    (hlen : ∀ g' vs, AllP Ps g' vs → vs.length ≤ sizeLine) (hP : ∀ g' vs, AllP Ps g' vs → ∀ g'' a, Sub g' g'' → g''.get? a = some { cls := .type "tuple", data := .seq vs.toArray } → P g'' (.ref a)) :
    Tr prog w A kp env m cm own g (eval (.Tuple elts k₀ pos) env) P := by
  intro s₀ g₁ s Q E k F c
  refine wpAny_Tuple (ha s₀ g₁ s _ E k F fun vs g' h' tk k1 k2 F' p => ⟨hlen g' vs p, ?_⟩)
  obtain ⟨g'', F'', k3, hn⟩ := F'.growN (tk := tk) (Sub.push h' { cls := .type "tuple", data := .seq vs.toArray })
  exact c _ g'' _ tk (k1.trans (Sub.push _ _)) (k2.trans k3) F'' (hP g' vs p g'' _ k3 (hn _ _ (get?_size h') (Heap.get?_push_size _ rfl)))

/-- what a call of a def hands back -/
def CallOk (prog : Program) (w : World) (A : Around) (a : Addr) (vs : List Value) (s : Shared) (P : Heap → Value → Prop) : Prop :=
  ∀ (Q : Value → Shared → Prop) (E : Value → Shared → Prop), (∀ v h' tk, Sub s.heap h' → P (minus h' s.heap) v → Q v { s with heap := h', toks := tk }) → wpAny (model prog w) A (call (.ref a) vs) Q E s
theorem ev_call {f : Str} {p pos : Pos} {e : Expr} {es : List Expr} {a : Addr} {o : Obj} {fd : FuncData} {R : Heap → List Value → Prop} {P : Heap → Value → Prop}
    (hf : Tr prog w A kp env m cm own g (eval (.Name f p) env) (pV (.ref a))) (ho : g.get? a = some o) (hd : o.data = .func fd)
    (ha : Tr prog w A kp env m cm own g (spliced (backTo pos (starEach (e :: es) env))) R) (he : starEach (e :: es) env = (false, eval e env) :: starEach es env) (hm : Mono P)
    (hc : ∀ g₁ s vs, Sub g g₁ → Sub g₁ s.heap → R g₁ vs → CallOk prog w A a vs s P) : Tr prog w A kp env m cm own g (eval (.Call (.Name f p) (e :: es) [] pos) env) P := by
  intro s₀ g₁ s Q E k F c
  refine wpAny_Call_Name_kw (hf s₀ g₁ s _ E k F fun _ g' h' tk k1 k2 F' p => ?_)
  cases p
  refine callWith_function (o := o) (fd := fd) ?_
  rw [he]
  refine evalArgs_plain ?_
  have ha' := ha
  rw [he] at ha'
  refine (ha'.lift (k.trans k2)) s₀ g' _ _ E (Sub.refl _) F' fun vs g'' h'' tk' k3 k4 F'' r => ⟨⟨F''.keep _ _ ((k.trans (k2.trans k4)) _ _ ho), hd⟩, ?_⟩
  refine hc g'' _ vs (k.trans (k2.trans k4)) F''.keep r Q E fun v h3 tk3 k5 pr => ?_
  obtain ⟨g3, F3, k6, k7⟩ := F''.grow (tk := tk3) k5
  exact c v g3 h3 tk3 (k1.trans (k3.trans k5)) (k2.trans (k4.trans k6)) F3 (hm _ _ _ k7 pr)
/-- a call of a built-in, by its rule -/
theorem ev_callB {f : Str} {p pos : Pos} {e : Expr} {es : List Expr} {id : String} {R : Heap → List Value → Prop} {P : Heap → Value → Prop}
    (hf : Tr prog w A kp env m cm own g (eval (.Name f p) env) (pV (.builtin id)))
    (ha : Tr prog w A kp env m cm own g (spliced (backTo pos (starEach (e :: es) env))) R) (he : starEach (e :: es) env = (false, eval e env) :: starEach es env) (hpl : (backTo pos (starEach (e :: es) env)).any (·.1) = false)
    (hc : ∀ g₁ vs, Sub g g₁ → R g₁ vs → Tr prog w A kp env m cm own g₁ (call (.builtin id) vs) P) : Tr prog w A kp env m cm own g (eval (.Call (.Name f p) (e :: es) [] pos) env) P := by
  intro s₀ g₁ s Q E k F c
  refine wpAny_Call_Name_kw (hf s₀ g₁ s _ E k F fun _ g' h' tk k1 k2 F' p => ?_)
  cases p
  refine callWith_builtin hpl ?_
  rw [he]
  refine evalArgs_plain ?_
  have ha' := ha
  rw [he] at ha'
  refine (ha'.lift (k.trans k2)) s₀ g' _ _ E (Sub.refl _) F' fun vs g'' h'' tk' k3 k4 F'' r => ?_
  exact hc g'' vs (k.trans (k2.trans k4)) r s₀ g'' _ _ E (Sub.refl _) F'' fun v g3 h3 tk3 k5 k6 F3 pr => c v g3 h3 tk3 (k1.trans (k3.trans k5)) (k2.trans (k4.trans k6)) F3 pr
theorem ev_callT {f : Str} {p pos : Pos} {e : Expr} {es : List Expr} {T : String} {R : Heap → List Value → Prop} {P : Heap → Value → Prop}
    (hf : Tr prog w A kp env m cm own g (eval (.Name f p) env) (pV (.type T)))
    (ha : Tr prog w A kp env m cm own g (spliced (backTo pos (starEach (e :: es) env))) R) (he : starEach (e :: es) env = (false, eval e env) :: starEach es env) (hpl : (backTo pos (starEach (e :: es) env)).any (·.1) = false)
    (hc : ∀ g₁ vs, Sub g g₁ → R g₁ vs → Tr prog w A kp env m cm own g₁ (call (.type T) vs) P) : Tr prog w A kp env m cm own g (eval (.Call (.Name f p) (e :: es) [] pos) env) P := by
  intro s₀ g₁ s Q E k F c
  refine wpAny_Call_Name_kw (hf s₀ g₁ s _ E k F fun _ g' h' tk k1 k2 F' p => ?_)
  cases p
  refine PyProof.Rows.callWith_type hpl ?_
  rw [he]
  refine evalArgs_plain ?_
  have ha' := ha
  rw [he] at ha'
  refine (ha'.lift (k.trans k2)) s₀ g' _ _ E (Sub.refl _) F' fun vs g'' h'' tk' k3 k4 F'' r => ?_
  exact hc g'' vs (k.trans (k2.trans k4)) r s₀ g'' _ _ E (Sub.refl _) F'' fun v g3 h3 tk3 k5 k6 F3 pr => c v g3 h3 tk3 (k1.trans (k3.trans k5)) (k2.trans (k4.trans k6)) F3 pr
/-- a subscript -/
theorem ev_item {value slice : Expr} {pos : Pos} {P1 : Heap → Value → Prop} {P2 : Value → Heap → Value → Prop} {P : Heap → Value → Prop}
    (h1 : Tr prog w A kp env m cm own g (eval value env) P1) (h2 : ∀ g₁ a, Sub g g₁ → P1 g₁ a → Tr prog w A kp env m cm own g₁ (eval slice env) (P2 a))
    (h3 : ∀ g₂ a b, Sub g g₂ → P2 a g₂ b → Tr prog w A kp env m cm own g₂ (subscriptTail value slice a b) P) : Tr prog w A kp env m cm own g (eval (.Subscript value slice pos) env) P :=
  Tr.three (fun _ _ _ h => Subscript_ h) h1 h2 h3
end
end Mine

namespace Mine
open PySem PySem.Calls PyProof.Rows PySem.W

def LObj (o : Obj) (vs : List Value) : Prop := o.cls = .type "list" ∧ o.dict = none ∧ ∃ n, o.data = .seq vs.toArray n
def TObj (o : Obj) (vs : List Value) : Prop := o.cls = .type "tuple" ∧ ∃ n, o.data = .seq vs.toArray n
/-- a new thing -/
def pNew (g : Heap) (Shape : Addr → Obj → Prop) : Heap → Value → Prop := fun g' v => ∃ a o, v = .ref a ∧ g'.get? a = some o ∧ g.get? a = none ∧ Shape a o
theorem mono_new (g : Heap) (Shape : Addr → Obj → Prop) : Mono (pNew g Shape) := fun _ _ _ k ⟨a, o, e, h, r⟩ => ⟨a, o, e, k _ _ h, r⟩

structure StoreTo (env : Env) (x : Str) (fm fc : (Str → Option Value) → Value → (Str → Option Value)) : Prop where
  run : ∀ {prog : Program} {w : World} {A : Around} {s₀ s : Shared} {g : Heap} {kp own : List (Addr × Obj)} {m cm : Str → Option Value} {v : Value} {Q : Unit → Shared → Prop} {E : Value → Shared → Prop},
    Fm s₀ g kp env m cm own s → (∀ h' tk, Fm s₀ g kp env (fm m v) (fc cm v) own { s with heap := h', toks := tk } → Q () { s with heap := h', toks := tk }) → wpAny (model prog w) A (storeName env x v) Q E s
def fmU (x : Str) : (Str → Option Value) → Value → (Str → Option Value) := fun m v => upd m x v
def fmI : (Str → Option Value) → Value → (Str → Option Value) := fun m _ => m
theorem st_local {env : Env} {x : Str} (hl : env.kindOf x = some .local) (hk : env.scope.kind = .function) : StoreTo env x (fmU x) fmI where
  run := fun F c => wpAny_storeName_local hl F.ns (fun h' hn hs => c h' _ (F.storeL hn hs)) (by rw [hk]; rfl)
theorem st_cell {env : Env} {x : Str} {a : Addr} (hl : env.kindOf x = some .cell) (hc : env.cells.lookup x = some a) (hd : (env.cells.map (·.1)).Nodup) (hk : env.scope.kind = .function) : StoreTo env x fmI (fmU x) where
  run := fun {_ _ _ _ s _ _ _ _ _ _ _ _} F c => wpAny_storeName_cell hk hl hc (F.cell x a (mem_of_lookup hc)) fun h' hv hs => c h' s.toks (F.storeC (mem_of_lookup hc) hd hv hs)

def Itr (prog : Program) (w : World) (A : Around) (g : Heap) (v : Value) (n : Nat) (P : Nat → Value → Prop) : Prop :=
  ∀ (s : Shared) (Q : Value → Shared → Prop) (E : Value → Shared → Prop), Sub g s.heap →
    (∀ (o : Obj) (St : Nat → Heap → Prop) (ax : List Addr), Walks prog w A s.heap.objs.size (s.heap.objs.size :: ax) [s.heap.objs.size] n P St → St 0 (s.heap.push o) → (∀ i h, St i h → ∃ o, h.get? s.heap.objs.size = some o) → (∀ a ∈ ax, ∃ o, g.get? a = some o) →
      Q (.ref s.heap.objs.size) { s with heap := s.heap.push o }) → wpAny (model prog w) A (pyIter v) Q E s

section
variable {prog : Program} {w : World} {A : Around} {kp own : List (Addr × Obj)} {env : Env} {m cm : Str → Option Value} {g : Heap} {s₀ s : Shared} {Q : Flow → Shared → Prop} {E : Value → Shared → Prop}

theorem LObj.isList {o : Obj} {vs : List Value} {a : Addr} {h : Heap} (l : LObj o vs) (e : h.get? a = some o) : h.IsList a vs.toArray := ⟨o, e, l.1, l.2.2⟩
theorem LObj.plainL {o : Obj} {vs : List Value} {a : Addr} {h : Heap} (l : LObj o vs) (e : h.get? a = some o) : PlainL h a vs.toArray := let ⟨n, hn⟩ := l.2.2; ⟨o, n, e, l.1, l.2.1, hn⟩

theorem itr_list {a : Addr} {o : Obj} {vs : List Value} (hh : A.handled = none) (e : g.get? a = some o) (l : LObj o vs) : Itr prog w A g (.ref a) vs.length (fun i v => vs[i]? = some v) := by
  intro s Q E k c
  have hl : s.heap.IsList a vs.toArray := l.isList (k _ _ e)
  refine wpAny_pyIter_list hl ?_
  have hne : a ≠ s.heap.objs.size := fun q => by have := k _ _ e; rw [q, get?_size] at this; cases this
  have W := Walks.list (prog := prog) (w := w) hh s.heap.objs.size a hne vs.toArray
  have e1 : vs.toArray.size = vs.length := by simp
  have e2 : (fun i v => vs.toArray[i]? = some v) = (fun (i : Nat) v => vs[i]? = some v) := by funext i v; simp
  rw [e1, e2] at W
  exact c _ _ [a] W ⟨⟨_, Heap.get?_push_size _ rfl, rfl, rfl⟩, hl.push _⟩ (fun _ _ ⟨⟨o, ho, _⟩, _⟩ => ⟨o, ho⟩) fun b hb => by rw [List.mem_singleton.mp hb]; exact ⟨o, e⟩
theorem itr_str {x : Str} {t : Tok} (hh : A.handled = none) : Itr prog w A g (.str x t) x.cps.size (SignAt x) := by
  intro s Q E k c
  cases ha : x.cps.all (· < 128) with
  | true => exact wpAny_pyIter_ascii ha (c _ _ [] (Walks.strAscii hh _ x t) ⟨_, Heap.get?_push_size _ rfl, rfl, rfl⟩ (fun _ _ ⟨o, ho, _⟩ => ⟨o, ho⟩) fun _ hb => nomatch hb)
  | false => exact wpAny_pyIter_wide ha (c _ _ [] (Walks.strWide hh _ x t) ⟨_, Heap.get?_push_size _ rfl, rfl, rfl⟩ (fun _ _ ⟨o, ho, _⟩ => ⟨o, ho⟩) fun _ hb => nomatch hb)
theorem itr_dict {K : Type} [DecidableEq K] {knd : KeyKind prog w K} {a : Addr} {kvs : List (K × Value)} (hh : A.handled = none) (hs : (a == sysModules) = false) (e : g.DictOf knd a kvs) :
    Itr prog w A g (.ref a) kvs.length (fun i v => ∃ k x, kvs[i]? = some (k, x) ∧ knd.is k v = true) := by
  intro s Q E k c
  have he := e
  obtain ⟨o, es, ep, ho, _⟩ := he
  have hd : s.heap.DictOf knd a kvs := Heap.DictOf.keep e k
  obtain ⟨ep, hd⟩ := hd.dictAt
  refine wpAny_pyIter_dict hs hd ?_
  have hne : a ≠ s.heap.objs.size := fun q => by have := k _ _ ho; rw [q, get?_size] at this; cases this
  exact c _ _ [a] (Walks.dictKeys (knd := knd) hh s.heap.objs.size a hne kvs ep) ⟨⟨_, Heap.get?_push_size _ rfl, rfl, rfl⟩, hd.push _⟩ (fun _ _ ⟨⟨o, ho, _⟩, _⟩ => ⟨o, ho⟩) fun b hb => by rw [List.mem_singleton.mp hb]; exact ⟨o, ho⟩
/-- a range by ones -/
def pRange (a b : Int) : Heap → Value → Prop := fun g v => ∃ r t u k, v = .ref r ∧ IsRange g r a b 1 t u k
theorem mono_range (a b : Int) : Mono (pRange a b) := fun _ _ _ k ⟨r, t, u, q, e, h⟩ => ⟨r, t, u, q, e, k _ _ h⟩
theorem itr_range {a b : Int} {v : Value} {n : Nat} (hh : A.handled = none) (ha : -(2 ^ 62) ≤ a) (ha' : a < 2 ^ 62) (hb : -(2 ^ 62) ≤ b) (hb' : b < 2 ^ 62) (hn : (b - a).toNat = n) (e : pRange a b g v) :
    Itr prog w A g v n (fun i v => ∃ t, v = .int (a + i) t) := by
  intro s Q E k c
  obtain ⟨r, t, u, q, rfl, e⟩ := e
  refine wpAny_pyIter_range (k _ _ e) (small_one ha ha' hb hb') ?_
  have W := Walks.range (prog := prog) (w := w) hh s.heap.objs.size a 1 n
  have e2 : (fun (i : Nat) v => ∃ t, v = Value.int (a + i * 1) t) = (fun (i : Nat) v => ∃ t, v = Value.int (a + i) t) := by funext i v; simp
  rw [e2] at W
  refine c _ _ [] W ?_ (fun _ _ h => ⟨_, h⟩) fun _ hb => nomatch hb
  show (s.heap.push _).get? s.heap.objs.size = some _
  rw [rangeSize_one, Heap.get?_push_size _ rfl]
  have : (if a < b then b - a else 0) = (n : Int) := by split <;> omega
  rw [this]
  simp [rawInt]

/-! ### statements -/
def After (prog : Program) (w : World) (A : Around) (rest : List Stmt) (env : Env) (Q : Flow → Shared → Prop) (E : Value → Shared → Prop) : Flow → Shared → Prop :=
  fun f s' => match f with | .next => wpAny (model prog w) A (execs rest env) Q E s' | f => Q f s'

theorem x_nil (h : Q .next s) : wpAny (model prog w) A (execs [] env) Q E s := wpAny_execs_nil h
theorem x_assign {x : Str} {p' p : Pos} {e : Expr} {rest : List Stmt} {P : Heap → Value → Prop} {fm fc : (Str → Option Value) → Value → (Str → Option Value)} (F : Fm s₀ g kp env m cm own s) (hst : StoreTo env x fm fc)
    (hev : Tr prog w A kp env m cm own g (eval e env) P) (hsw : swapsWith e (some (.Name x p')) p.line env = pure false)
    (c : ∀ v g' s', Sub g g' → P g' v → Fm s₀ g' kp env (fm m v) (fc cm v) own s' → wpAny (model prog w) A (execs rest env) Q E s') :
    wpAny (model prog w) A (execs (.Assign [.Name x p'] e p :: rest) env) Q E s := by
  refine wpAny_execs_cons (wpAny_Assign_Name (hev s₀ g s _ E (Sub.refl _) F fun v g' h' tk k1 k2 F' p => ?_) hsw)
  exact hst.run F' fun h'' tk' F'' => c v g' _ k2 p F''
theorem x_assign2 {x y : Str} {p1 p2 p : Pos} {e : Expr} {rest : List Stmt} {P : Heap → Value → Prop} {fm fc fm' fc' : (Str → Option Value) → Value → (Str → Option Value)} (F : Fm s₀ g kp env m cm own s) (hst : StoreTo env x fm fc) (hst' : StoreTo env y fm' fc')
    (hev : Tr prog w A kp env m cm own g (eval e env) P) (he : (assignEach [.Name x p1, .Name y p2] env).map (·.2) = [assign (.Name x p1) env, assign (.Name y p2) env])
    (hs : swapsWithSole [.Name x p1, .Name y p2] e p.line env = pure false) (hw : swappedStores [.Name x p1, .Name y p2] e env = pure none)
    (c : ∀ v g' s', Sub g g' → P g' v → Fm s₀ g' kp env (fm' (fm m v) v) (fc' (fc cm v) v) own s' → wpAny (model prog w) A (execs rest env) Q E s') :
    wpAny (model prog w) A (execs (.Assign [.Name x p1, .Name y p2] e p :: rest) env) Q E s := by
  refine wpAny_execs_cons (wpAny_Assign_stores (hev s₀ g s _ E (Sub.refl _) F fun v g' h' tk k1 k2 F' p => ?_) hs hw)
  rw [he]
  refine wpAny_bind (wpAny_holding (wpAny_assign_Name (hst.run F' fun h'' tk' F'' => ?_)))
  exact wpAny_assign_Name (hst'.run F'' fun h3 tk3 F3 => c v g' _ k2 p F3)
theorem Fm.thaw (F : Fm s₀ g kp env m cm own s) {a : Addr} {o : Obj} (e : g.get? a = some o) : Fm s₀ (hideAll g [a]) kp env m cm ((a, o) :: own) s := by
  have hperm := hidden_own_perm (env := env) (kp := kp) (own := own) (a, o)
  have hn : a ∉ hidden env kp own := fun h => by rw [F.hid a h] at e; cases e
  refine ⟨F.same, (hide_sub _ _).trans F.keep, F.ns, F.cell, ?_, F.kept, ?_, hperm.nodup_iff.mpr (List.nodup_cons.mpr ⟨hn, F.apart⟩)⟩
  · intro p hp
    rcases List.mem_cons.mp hp with rfl | hp
    · exact F.keep _ _ e
    · exact F.ow p hp
  · intro b hb
    rcases List.mem_cons.mp (hperm.mem_iff.mp hb) with rfl | hb
    · exact hideAll_none _ (List.mem_singleton.mpr rfl)
    · exact (hide_sub g [a]).none (F.hid b hb)
/-- a new thing of the frame's own under a name -/
theorem x_new {x : Str} {p' p : Pos} {e : Expr} {rest : List Stmt} {Shape : Addr → Obj → Prop} {fm fc : (Str → Option Value) → Value → (Str → Option Value)} (F : Fm s₀ g kp env m cm own s) (hst : StoreTo env x fm fc)
    (hev : Tr prog w A kp env m cm own g (eval e env) (pNew g Shape)) (hsw : swapsWith e (some (.Name x p')) p.line env = pure false)
    (c : ∀ a o g' s', Shape a o → Sub g g' → Fm s₀ g' kp env (fm m (.ref a)) (fc cm (.ref a)) ((a, o) :: own) s' → wpAny (model prog w) A (execs rest env) Q E s') :
    wpAny (model prog w) A (execs (.Assign [.Name x p'] e p :: rest) env) Q E s := by
  refine x_assign F hst hev hsw fun v g' s' k hp F' => ?_
  obtain ⟨a, o, rfl, ho, hn, hs⟩ := hp
  exact c a o _ s' hs (sub_hide k fun b hb => by rw [List.mem_singleton.mp hb]; exact hn) (F'.thaw ho)
theorem x_if {test : Expr} {body orelse rest : List Stmt} {p : Pos} {b : Bool} (F : Fm s₀ g kp env m cm own s) (ht : Tr prog w A kp env m cm own g (isTrue test env (eval test env)) (pT b))
    (c1 : b = true → ∀ g' s', Sub g g' → Fm s₀ g' kp env m cm own s' → wpAny (model prog w) A (execs body env) (After prog w A rest env Q E) E s')
    (c2 : b = false → ∀ g' s', Sub g g' → Fm s₀ g' kp env m cm own s' → wpAny (model prog w) A (execs orelse env) (After prog w A rest env Q E) E s') :
    wpAny (model prog w) A (execs (.If test body orelse p :: rest) env) Q E s := by
  refine wpAny_execs_cons (wpAny_If (ht s₀ g s _ E (Sub.refl _) F fun a g' h' tk k1 k2 F' p => ?_))
  cases p
  cases b with
  | true => exact c1 rfl g' _ k2 F'
  | false => exact c2 rfl g' _ k2 F'
theorem x_ret {e : Expr} {p : Pos} {rest : List Stmt} {P : Heap → Value → Prop} (F : Fm s₀ g kp env m cm own s) (hev : Tr prog w A kp env m cm own g (eval e env) P)
    (c : ∀ v g' s', Sub g g' → P g' v → Fm s₀ g' kp env m cm own s' → Q (.ret v) s') : wpAny (model prog w) A (execs (.Return (some e) p :: rest) env) Q E s :=
  wpAny_execs_cons (wpAny_Return_some (hev s₀ g s _ E (Sub.refl _) F fun v g' h' tk k1 k2 F' p => c v g' _ k2 p F'))
theorem x_cont {p : Pos} {rest : List Stmt} (h : Q .cont s) : wpAny (model prog w) A (execs (.Continue p :: rest) env) Q E s := wpAny_execs_cons (wpAny_Continue h)
theorem x_brk {p : Pos} {rest : List Stmt} (h : Q .brk s) : wpAny (model prog w) A (execs (.Break p :: rest) env) Q E s := wpAny_execs_cons (wpAny_Break h)
/-- text += text -/
theorem x_augS {x : Str} {p' p : Pos} {e : Expr} {rest : List Stmt} {a b : Str} {t : Tok} {fm fc : (Str → Option Value) → Value → (Str → Option Value)} (F : Fm s₀ g kp env m cm own s) (hst : StoreTo env x fm fc)
    (hv : m x = some (.str a t)) (hl : env.kindOf x = some .local) (hk : env.scope.kind = .function) (hev : Tr prog w A kp env m cm own g (eval e env) (pS b)) (hsz : a.length + b.length ≤ sizeLine)
    (c : ∀ t' g' s', Sub g g' → Fm s₀ g' kp env (fm m (.str (a ++ b) t')) (fc cm (.str (a ++ b) t')) own s' → wpAny (model prog w) A (execs rest env) Q E s') :
    wpAny (model prog w) A (execs (.AugAssign (.Name x p') .Add e p :: rest) env) Q E s := by
  refine wpAny_execs_cons (wpAny_AugAssign_Name (wpAny_loadName_local hk hl F.ns hv ?_))
  refine hev s₀ g s _ E (Sub.refl _) F fun v g' h' tk k1 k2 F' pr => ?_
  obtain ⟨u, rfl⟩ := pr
  exact SB.iadd (fun t' k => hst.run (F'.tok k) fun h'' tk' F'' => c t' g' _ k2 F'') hsz
/-- append to a list of the frame's own -/
theorem x_append {x : Str} {p1 apos cpos epos : Pos} {e : Expr} {rest : List Stmt} {d : Addr} {o : Obj} {vs : List Value} {P : Heap → Value → Prop} (F : Fm s₀ g kp env m cm ((d, o) :: own) s)
    (hx : Tr prog w A kp env m cm ((d, o) :: own) g (eval (.Name x p1) env) (pV (.ref d))) (lo : LObj o vs) (hsz : vs.length ≤ sizeLine) (hev : Tr prog w A kp env m cm ((d, o) :: own) g (eval e env) P)
    (hbase : attributeBase (.Name x p1) "append" env (eval (.Name x p1) env) = eval (.Name x p1) env)
    (hfew : ((backTo cpos (starEach [e] env)).all (fun x => !x.1) && (backToKw cpos (keywordEach [] env)).all (fun x => x.1.isSome)
      && decide (([e] : List Expr).length + ([] : List Keyword).length + (if ([] : List Keyword).isEmpty then 0 else 1) < 30)) = true)
    (hline : (apos.endLine == cpos.line) = true) (htrees : backTo cpos (starEach [e] env) = [(false, eval e env)])
    (hint : interactive env = false) (hsw : swapsWith (.Call (.Attribute (.Name x p1) "append" apos) [e] [] cpos) none epos.line env = pure false)
    (c : ∀ v o' g' s', Sub g g' → P g' v → LObj o' (vs ++ [v]) → Fm s₀ g' kp env m cm ((d, o') :: own) s' → wpAny (model prog w) A (execs rest env) Q E s') :
    wpAny (model prog w) A (execs (.Expr (.Call (.Attribute (.Name x p1) "append" apos) [e] [] cpos) epos :: rest) env) Q E s := by
  refine wpAny_execs_cons (wpAny_Expr (wpAny_Call_append hbase hfew hline htrees (hx s₀ g s _ E (Sub.refl _) F fun v g' h' tk k1 k2 F' p => ?_)) hint hsw)
  cases p
  refine ⟨d, vs.toArray, rfl, lo.plainL (F'.ow _ List.mem_cons_self), ?_⟩
  refine (hev.lift k2) s₀ g' _ _ E (Sub.refl _) F' fun y g'' h'' tk' k3 k4 F'' p => ?_
  refine list_append_plainL (lo.plainL (F''.ow _ List.mem_cons_self)) (fun h3 hp hs => ?_) (by simpa using hsz)
  obtain ⟨o', n', ho', hc', hd', hdat⟩ := hp
  exact c y o' g'' _ (k2.trans k4) p ⟨hc', hd', n', by rw [hdat]; simp⟩ (F''.change (tk := tk') hs ho')

/-- a for -/
theorem x_for {n : Nat} {P : Nat → Value → Prop} {Pv : Heap → Value → Prop} {x : Str} {px pos : Pos} {iter : Expr} {body rest : List Stmt} {fm fc : (Str → Option Value) → Value → (Str → Option Value)}
    (J : Nat → Heap → (Str → Option Value) → (Str → Option Value) → List (Addr × Obj) → Prop) (JB : Heap → (Str → Option Value) → (Str → Option Value) → List (Addr × Obj) → Prop)
    (F : Fm s₀ g kp env m cm own s) (hiter : Tr prog w A kp env m cm own g (eval iter env) Pv) (hI : ∀ g' v, Sub g g' → Pv g' v → Itr prog w A g' v n P) (hst : StoreTo env x fm fc)
    (h0 : ∀ g', Sub g g' → J 0 g' m cm own)
    (turn : ∀ kp' i v g₁ m₁ cm₁ own₁ s₁ E', i < n → Sub g g₁ → P i v → J i g₁ m₁ cm₁ own₁ → Fm s₀ g₁ kp' env (fm m₁ v) (fc cm₁ v) own₁ s₁ →
      wpAny (model prog w) A (execs body env) (fun f s₂ => match f with
        | .next | .cont => ∃ g₂ m₂ cm₂ own₂, Sub g₁ g₂ ∧ J (i + 1) g₂ m₂ cm₂ own₂ ∧ Fm s₀ g₂ kp' env m₂ cm₂ own₂ s₂
        | .brk => ∃ g₂ m₂ cm₂ own₂, Sub g₁ g₂ ∧ JB g₂ m₂ cm₂ own₂ ∧ Fm s₀ g₂ kp' env m₂ cm₂ own₂ s₂
        | .ret _ => False) E' s₁)
    (done : ∀ g₁ m₁ cm₁ own₁ s₁, Sub g g₁ → (J n g₁ m₁ cm₁ own₁ ∨ JB g₁ m₁ cm₁ own₁) → Fm s₀ g₁ kp env m₁ cm₁ own₁ s₁ → wpAny (model prog w) A (execs rest env) Q E s₁)
    (hs : ∀ x, foldedSetIterable iter env x = pure x) :
    wpAny (model prog w) A (execs (.For (.Name x px) iter body [] pos :: rest) env) Q E s := by
  refine wpAny_execs_cons (wpAny_For (hiter s₀ g s _ E (Sub.refl _) F fun v g' h' tk k1 k2 F' p => ?_) hs)
  refine hI g' v k2 p _ _ E F'.keep fun o St ax W hst0 hex hax => ?_
  have hgI : g'.get? h'.objs.size = none := fresh_size F'.keep
  have hnI : h'.objs.size ∉ hidden env kp own := fun hm => by obtain ⟨o, e⟩ := F'.there _ hm; rw [get?_size] at e; cases e
  show codeAny (model prog w) A (.forLoop (.Name x px) (.ref h'.objs.size) body [] env) _ _
  refine codeAny_forLoop (fun k s' => ∃ i g₁ m₁ cm₁ own₁, Sub g' g₁ ∧ J i g₁ m₁ cm₁ own₁ ∧ Fm s₀ g₁ kp env m₁ cm₁ own₁ s' ∧ St i s'.heap ∧ h'.objs.size ∉ hidden env kp own₁ ∧ g₁.get? h'.objs.size = none ∧ i ≤ n ∧ k = n + 1 - i) ?_ (n + 1)
    ⟨0, g', m, cm, own, Sub.refl _, h0 g' k2, F'.step (Sub.push _ _), hst0, hnI, hgI, Nat.zero_le _, rfl⟩
  rintro k s' ⟨i, g₁, m₁, cm₁, own₁, kg, hJ, F₁, hSt, hn₁, hg₁, hi, rfl⟩
  by_cases hlt : i < n
  · refine W.item i _ _ _ hlt hSt fun v h₁ tk₁ hP hSt₁ hk₁ => ?_
    have hk₁' : ∀ b o, b ≠ h'.objs.size → s'.heap.get? b = some o → h₁.get? b = some o := fun b o hb => hk₁ b o fun hm => hb (List.mem_singleton.mp hm)
    have F₂ := F₁.off (tk := tk₁) hg₁ hn₁ hk₁'
    obtain ⟨oI, hI1⟩ := hex _ _ hSt₁
    have F₃ := F₂.enter hI1 hg₁ hn₁
    refine wpAny_assign_Name (hst.run F₃ fun h₂ tk₂ F₄ => ?_)
    refine wpAny_mono (turn _ i v g₁ m₁ cm₁ own₁ _ _ hlt (k2.trans kg) hP hJ F₄) (fun f s₅ h₅ => ?_) fun _ _ e => e
    have hfr : ∀ g₂, Sub g₁ g₂ → Sub g₂ s₅.heap → s₅.heap.get? h'.objs.size = some oI → St (i + 1) s₅.heap := by
      intro g₂ kk ks kI
      refine W.frame _ _ _ hSt₁ fun b hb o e => ?_
      rcases List.mem_cons.mp hb with rfl | hb
      · rw [hI1] at e; cases e; exact kI
      · obtain ⟨o', ho'⟩ := hax b hb
        have e1 := F₂.keep b o' (kg b o' ho')
        have e2 : h₁.get? b = some o' := e1
        rw [e2] at e; cases e
        exact ks b _ (kk b _ (kg b _ ho'))
    cases f with
    | next =>
      obtain ⟨g₂, m₂, cm₂, own₂, kk, hJ₂, F₅⟩ := h₅
      obtain ⟨F₆, q1, q2, q3⟩ := F₅.leave
      exact ⟨n + 1 - (i + 1), by omega, i + 1, g₂, m₂, cm₂, own₂, kg.trans kk, hJ₂, F₆, hfr g₂ kk F₆.keep q1, q3, q2, hlt, rfl⟩
    | cont =>
      obtain ⟨g₂, m₂, cm₂, own₂, kk, hJ₂, F₅⟩ := h₅
      obtain ⟨F₆, q1, q2, q3⟩ := F₅.leave
      exact ⟨n + 1 - (i + 1), by omega, i + 1, g₂, m₂, cm₂, own₂, kg.trans kk, hJ₂, F₆, hfr g₂ kk F₆.keep q1, q3, q2, hlt, rfl⟩
    | brk =>
      obtain ⟨g₂, m₂, cm₂, own₂, kk, hJ₂, F₅⟩ := h₅
      exact done g₂ m₂ cm₂ own₂ _ (k2.trans (kg.trans kk)) (.inr hJ₂) F₅.leave.1
    | ret v => exact h₅.elim
  · have hin : i = n := by omega
    subst hin
    refine W.done _ _ _ hSt fun h₁ tk₁ hk₁ => wpAny_execs_nil ?_
    have hk₁' : ∀ b o, b ≠ h'.objs.size → s'.heap.get? b = some o → h₁.get? b = some o := fun b o hb => hk₁ b o fun hm => hb (List.mem_singleton.mp hm)
    exact done g₁ m₁ cm₁ own₁ _ (k2.trans kg) (.inl hJ) (F₁.off (tk := tk₁) hg₁ hn₁ hk₁')
end
end Mine

namespace Mine
open PySem PySem.Calls PyProof.Rows PySem.W

/-! ## The program's defs -/
def nmF : Stmt → Str | .FunctionDef n _ _ _ _ _ _ _ _ _ => n | _ => ⟨#[]⟩
def agF : Stmt → Arguments | .FunctionDef _ a _ _ _ _ _ _ _ _ => a | _ => ⟨[], [], none, [], [], none, []⟩
def bdF : Stmt → List Stmt | .FunctionDef _ _ b _ _ _ _ _ _ _ => b | _ => []
def scF : Stmt → Scope | .FunctionDef _ _ _ _ _ _ s _ _ _ => s | _ => default
def stm (i : Nat) : Stmt := (PySem.Challenge.pw_mq0494_01.main.body[i]?).getD (.Pass default)
def fdF (i : Nat) (pm code doc : Value) : FuncData := docDef (nmF (stm i)) (agF (stm i)) (bdF (stm i)) (scF (stm i)) pm code doc
abbrev envF (i : Nat) (pm code doc : Value) (L a : Addr) : Env := callEnvC (fdF i pm code doc) L a

structure FnAt (mg : Str → Option Value) (h : Heap) (i : Nat) (a : Addr) (pm code doc : Value) : Prop where
  nm : mg (nmF (stm i)) = some (.ref a)
  ob : ∃ o, h.get? a = some o ∧ o.data = .func (fdF i pm code doc)
  cd : h.CodeRec code (nmF (stm i))
structure Gd (mg mb : Str → Option Value) (h : Heap) : Prop where
  g : h.Ns mainGlobals mg
  b : h.Ns builtinsNs mb
  nolimit : h.NoLimit
  fn : ∀ i ∈ [1, 3, 4, 5, 6, 7, 8, 9, 10, 11, 12, 13], ∃ a pm code doc, FnAt mg h i a pm code doc
  bi : ∀ x ∈ ["len", "range", "dict", "list", "sum"], mg (Str.ofString x) = none ∧ mb (Str.ofString x) = bootBuiltins (Str.ofString x)
theorem FnAt.keeps {mg : Str → Option Value} {h h' : Heap} {i : Nat} {a : Addr} {pm code doc : Value} (x : FnAt mg h i a pm code doc) (k : Sub h h') : FnAt mg h' i a pm code doc :=
  ⟨x.nm, let ⟨o, e, d⟩ := x.ob; ⟨o, k _ _ e, d⟩, x.cd.keeps k⟩
theorem Gd.keeps {mg mb : Str → Option Value} {h h' : Heap} (G : Gd mg mb h) (k : Sub h h') : Gd mg mb h' :=
  ⟨G.g.keeps k, G.b.keeps k, G.nolimit.keeps k, fun i hi => let ⟨a, pm, code, doc, x⟩ := G.fn i hi; ⟨a, pm, code, doc, x.keeps k⟩, G.bi⟩

/-- the room for calls -/
structure Aok (k : Nat) (A : Around) : Prop where
  hand : A.handled = none
  depth : A.depth + k < recursionLimit
  units : A.units + 16 * k < cLine
theorem Aok.deeper {k : Nat} {A : Around} (x : Aok (k + 1) A) (env : Env) : Aok k (A.deeper env) :=
  ⟨x.hand, by have := x.depth; show A.depth + 1 + k < _; omega, by have := x.units; show A.units + 3 + 16 * k < _; omega⟩
theorem Aok.mono {k j : Nat} {A : Around} (x : Aok k A) (h : j ≤ k) : Aok j A := ⟨x.hand, by have := x.depth; omega, by have := x.units; omega⟩

theorem cellsFrom_names : ∀ (names : List (Str × NameKind)) (n n' : Nat) (acc acc' : List (Str × Addr)), acc.map (·.1) = acc'.map (·.1) → (cellsFrom n names acc).map (·.1) = (cellsFrom n' names acc').map (·.1)
  | [], _, _, _, _, h => h
  | (x, k) :: r, n, n', acc, acc', h => by
    unfold cellsFrom
    split
    · exact cellsFrom_names r _ _ _ _ (by simp [h])
    · exact cellsFrom_names r _ _ _ _ h
theorem lookup_of_mem {α : Type} : ∀ {l : List (Str × α)}, (l.map (·.1)).Nodup → ∀ {n : Str} {c : α}, (n, c) ∈ l → l.lookup n = some c
  | [], _, _, _, h => nomatch h
  | (k, v) :: r, hd, n, c, h => by
    simp only [List.map_cons, List.nodup_cons] at hd
    rw [List.lookup_cons]
    rcases List.mem_cons.mp h with e | h1
    · cases e; simp
    · have : (n == k) = false := by
        rw [beq_eq_false_iff_ne]
        intro e; subst e
        exact hd.1 (List.mem_map.mpr ⟨(n, c), h1, rfl⟩)
      rw [this]; exact lookup_of_mem hd.2 h1

/-- entering a def -/
theorem call_enter {prog : Program} {w : World} {A : Around} {s : Shared} {i : Nat} {a : Addr} {pm code doc : Value} {mg : Str → Option Value} {vals : List Value} {binds : List (Str × Value)} {P : Heap → Value → Prop}
    (f : FnAt mg s.heap i a pm code doc) (hroom : A.depth < recursionLimit) (hlim : s.heap.NoLimit) (hbind : bindArgs (fdF i pm code doc) ⟨vals, []⟩ = pure binds)
    (hkind : (binds.all fun y => (scF (stm i)).names.lookup y.1 == some .local || (scF (stm i)).names.lookup y.1 == some .cell) = true)
    (hnd : ((cellsFrom 0 (scF (stm i)).names []).map (·.1)).Nodup)
    (hco : (scF (stm i)).isCoroutine = false) (hgen : (scF (stm i)).isGenerator = false) (hk : (scF (stm i)).kind = .function)
    (h : ∀ s₁, Fm s s.heap [] (envF i pm code doc s.heap.objs.size a) (bindL (envF i pm code doc s.heap.objs.size a).kindOf binds fun _ => none) (bindC (envF i pm code doc s.heap.objs.size a).kindOf binds fun _ => none) [] s₁ →
      ∀ E', wpAny (model prog w) (A.deeper (envF i pm code doc s.heap.objs.size a)) (execs (bdF (stm i)) (envF i pm code doc s.heap.objs.size a))
        (fun f s' => ∃ v h' tk, f = .ret v ∧ s' = { s with heap := h', toks := tk } ∧ Sub s.heap h' ∧ P (minus h' s.heap) v) E' s₁) : CallOk prog w A a vals s P := by
  intro Q E c
  obtain ⟨o, ho, hd⟩ := f.ob
  refine wpAny_call (codeAny_call_cells (fd := fdF i pm code doc) hroom ho hd hlim f.cd rfl hbind rfl ?_ ?_ hco hgen hk)
  · exact kindsX hkind (s.heap.objs.size + 1)
  · intro s₁ x
    have hnd' : ((envF i pm code doc s.heap.objs.size a).cells.map (·.1)).Nodup := by
      have : (envF i pm code doc s.heap.objs.size a).cells.map (·.1) = (cellsFrom 0 (scF (stm i)).names []).map (·.1) := cellsFrom_names _ _ _ _ _ rfl
      rw [this]; exact hnd
    have hLc : ∀ c ∈ (envF i pm code doc s.heap.objs.size a).cells.map (·.2), s.heap.objs.size < c := by
      intro c hc
      obtain ⟨⟨n, c'⟩, hp, rfl⟩ := List.mem_map.mp hc
      exact x.above n c' hp
    have Fm1 : Fm s s.heap [] (envF i pm code doc s.heap.objs.size a) (bindL (envF i pm code doc s.heap.objs.size a).kindOf binds fun _ => none) (bindC (envF i pm code doc s.heap.objs.size a).kindOf binds fun _ => none) [] s₁ := by
      refine ⟨x.toInCall.same, x.toInCall.keep, x.toInCall.ns, fun n c hm => x.cell n c (lookup_of_mem hnd' hm), fun _ h => (nomatch h), fun _ h => (nomatch h), ?_, ?_⟩
      · intro b hb
        have hge : s.heap.objs.size ≤ b := by
          unfold hidden at hb
          rcases List.mem_cons.mp hb with rfl | hb
          · exact Nat.le_refl _
          · simp only [List.map_nil, List.append_nil] at hb
            exact Nat.le_of_lt (hLc b hb)
        cases e : s.heap.get? b with
        | none => rfl
        | some o => exact absurd (Heap.lt_size e) (Nat.not_lt.mpr hge)
      · unfold hidden
        simp only [List.map_nil, List.append_nil]
        refine List.nodup_cons.mpr ⟨fun hm => Nat.lt_irrefl _ (hLc _ hm), ?_⟩
        exact List.pairwise_map.mpr x.apart
    refine wpAny_mono (h s₁ Fm1 _) (fun f s' hf => ?_) fun _ _ e => e
    obtain ⟨v, h', tk, rfl, rfl, k, p⟩ := hf
    exact c v h' tk k p
end Mine

namespace Mine
open PySem PySem.Calls PyProof.Rows PySem.W

/-! ## Dicts of counts -/
def setF (f : Nat → Nat) (j n : Nat) : Nat → Nat := fun x => if x = j then n else f x
def Ent (f : Nat → Nat) (p : Int × Value) (i : Nat) : Prop := ∃ t, p = ((i : Int), Value.int (f i : Int) t)
def WFo (prog : Program) (w : World) (N : Nat) (f : Nat → Nat) (o : Obj) : Prop :=
  ∃ es ks, o.IsDictOf (intKind prog w) es ∧ Paired (Ent f) es ks ∧ (∀ i ∈ ks, i < N) ∧ ∀ i, f i ≠ 0 ↔ i ∈ ks
def pW (prog : Program) (w : World) (N : Nat) (f : Nat → Nat) : Heap → Value → Prop := fun g v => ∃ a o, v = .ref a ∧ (a == sysModules) = false ∧ g.get? a = some o ∧ WFo prog w N f o
theorem mono_W (prog : Program) (w : World) (N : Nat) (f : Nat → Nat) : Mono (pW prog w N f) := fun _ _ _ k ⟨a, o, e, hs, h, r⟩ => ⟨a, o, e, hs, k _ _ h, r⟩

theorem paired_keys {f : Nat → Nat} : ∀ {es : List (Int × Value)} {ks : List Nat}, Paired (Ent f) es ks → es.map (·.1) = ks.map fun i : Nat => (i : Int)
  | _, _, .nil => rfl
  | _, _, .cons h r => by obtain ⟨t, rfl⟩ := h; simp [paired_keys r]
theorem paired_value {f : Nat → Nat} {i : Nat} : ∀ {es : List (Int × Value)} {ks : List Nat}, Paired (Ent f) es ks → (i ∈ ks → ∃ t, valueAt es (i : Int) = some (.int (f i : Int) t)) ∧ (i ∉ ks → valueAt es (i : Int) = none)
  | _, _, .nil => ⟨fun h => (nomatch h), fun _ => rfl⟩
  | _, _, .cons (b := k) (l₁ := es) (l₂ := ks) h r => by
    obtain ⟨t, rfl⟩ := h
    obtain ⟨h1, h2⟩ := paired_value (i := i) r
    unfold valueAt at h1 h2 ⊢
    by_cases hk : k = i
    · subst hk
      exact ⟨fun _ => ⟨t, by simp⟩, fun h => absurd List.mem_cons_self h⟩
    · have hk' : ¬ ((k : Int) = (i : Int)) := by omega
      simp only [List.find?_cons, decide_eq_false hk']
      constructor
      · intro h
        rcases List.mem_cons.mp h with e | h
        · exact absurd e.symm hk
        · exact h1 h
      · intro h
        exact h2 fun q => h (List.mem_cons_of_mem _ q)
theorem paired_map {f : Nat → Nat} {j n : Nat} {t : Tok} : ∀ {es : List (Int × Value)} {ks : List Nat}, Paired (Ent f) es ks →
    Paired (Ent (setF f j n)) (es.map fun kv => if kv.1 = (j : Int) then (kv.1, Value.int (n : Int) t) else kv) ks
  | _, _, .nil => .nil
  | _, _, .cons (b := k) h r => by
    obtain ⟨u, rfl⟩ := h
    rw [List.map_cons]
    refine .cons ?_ (paired_map r)
    by_cases hk : k = j
    · subst hk; exact ⟨t, by simp [setF]⟩
    · have hk' : ¬ ((k : Int) = (j : Int)) := by omega
      exact ⟨u, by simp [setF, hk, hk']⟩
theorem paired_weaken {f f' : Nat → Nat} {es : List (Int × Value)} {ks : List Nat} (h : ∀ i ∈ ks, f i = f' i) (p : Paired (Ent f) es ks) : Paired (Ent f') es ks := by
  induction p with
  | nil => exact .nil
  | cons q _ ih =>
    obtain ⟨u, rfl⟩ := q
    exact .cons ⟨u, by rw [h _ List.mem_cons_self]⟩ (ih fun i hi => h i (List.mem_cons_of_mem _ hi))
theorem paired_any {f : Nat → Nat} {j : Nat} {es : List (Int × Value)} {ks : List Nat} (p : Paired (Ent f) es ks) : (es.any fun kv => decide (kv.1 = (j : Int))) = decide (j ∈ ks) := by
  have h := paired_keys p
  rw [Bool.eq_iff_iff, List.any_eq_true, decide_eq_true_iff]
  constructor
  · rintro ⟨x, hx, e⟩
    have : x.1 ∈ es.map (·.1) := List.mem_map.mpr ⟨x, hx, rfl⟩
    rw [h, of_decide_eq_true e] at this
    obtain ⟨i, hi, e2⟩ := List.mem_map.mp this
    have : i = j := by omega
    exact this ▸ hi
  · intro hj
    have : ((j : Nat) : Int) ∈ es.map (·.1) := by rw [h]; exact List.mem_map.mpr ⟨j, hj, rfl⟩
    obtain ⟨x, hx, e⟩ := List.mem_map.mp this
    exact ⟨x, hx, decide_eq_true e⟩
theorem keys_nodup {prog : Program} {w : World} {f : Nat → Nat} {o : Obj} {es : List (Int × Value)} {ks : List Nat} (d : o.IsDictOf (intKind prog w) es) (p : Paired (Ent f) es ks) : ks.Nodup := by
  obtain ⟨_, _, _, _, _, _, hn⟩ := d
  rw [paired_keys p] at hn
  exact List.Pairwise.of_map (fun i : Nat => (i : Int)) (fun a b h e => h (by rw [e])) hn
theorem length_le_of_nodup {ks : List Nat} {N : Nat} (hn : ks.Nodup) (hb : ∀ i ∈ ks, i < N) : ks.length ≤ N := by
  have := hn.length_le_of_subset (l₂ := List.range N) fun i hi => List.mem_range.mpr (hb i hi)
  simpa using this
theorem WFo.stored {prog : Program} {w : World} {N : Nat} {f : Nat → Nat} {es : List (Int × Value)} {ks : List Nat} {j n : Nat} {t : Tok} {o : Obj} (p : Paired (Ent f) es ks) (hb : ∀ i ∈ ks, i < N) (hf : ∀ i, f i ≠ 0 ↔ i ∈ ks) (hj : j < N) (hn : n ≠ 0)
    (d : o.IsDictOf (intKind prog w) (stored es (j : Int) (Value.int (n : Int) t))) : WFo prog w N (setF f j n) o := by
  unfold PySem.stored at d
  rw [paired_any p] at d
  by_cases hm : j ∈ ks
  · rw [decide_eq_true hm, if_pos rfl] at d
    refine ⟨_, ks, d, paired_map p, hb, fun i => ?_⟩
    by_cases e : i = j
    · subst e; simp [setF, hn, hm]
    · simpa [setF, e] using hf i
  · rw [decide_eq_false hm, if_neg (by simp)] at d
    refine ⟨_, ks ++ [j], d, ?_, ?_, ?_⟩
    · refine Paired.snoc (paired_weaken (fun i hi => ?_) p) ⟨t, by simp [setF]⟩
      have : i ≠ j := fun e => hm (e ▸ hi)
      simp [setF, this]
    · intro i hi
      rcases List.mem_append.mp hi with h | h
      · exact hb i h
      · rw [List.mem_singleton.mp h]; exact hj
    · intro i
      by_cases e : i = j
      · subst e; simp [setF, hn]
      · simpa [setF, e] using hf i
theorem WFo.new {prog : Program} {w : World} {N : Nat} {o : Obj} (d : o.IsDictOf (intKind prog w) []) : WFo prog w N (fun _ => 0) o := ⟨[], [], d, .nil, fun _ h => (nomatch h), fun _ => ⟨fun h => absurd rfl h, fun h => nomatch h⟩⟩

section
variable {prog : Program} {w : World} {A : Around} {kp own : List (Addr × Obj)} {env : Env} {m cm : Str → Option Value} {g : Heap} {s₀ s : Shared} {Q : Flow → Shared → Prop} {E : Value → Shared → Prop}

theorem dictOf_own {K : Type} [DecidableEq K] {knd : KeyKind prog w K} {h : Heap} {a : Addr} {o : Obj} {es : List (K × Value)} (e : h.get? a = some o) (d : o.IsDictOf knd es) : h.DictOf knd a es := Heap.dictOf_iff.mpr ⟨o, e, d⟩

/-- d.get(j, 0), d of the frame's own -/
theorem ev_get {x : Str} {p1 apos pos : Pos} {e1 e2 : Expr} {d : Addr} {o : Obj} {N j : Nat} {f : Nat → Nat} (hd : (d == sysModules) = false) (hw : WFo prog w N f o)
    (hx : Tr prog w A kp env m cm ((d, o) :: own) g (eval (.Name x p1) env) (pV (.ref d)))
    (h1 : Tr prog w A kp env m cm ((d, o) :: own) g (eval e1 env) (pI (j : Int))) (h2 : Tr prog w A kp env m cm ((d, o) :: own) g (eval e2 env) (pI 0))
    (hbase : attributeBase (.Name x p1) "get" env (eval (.Name x p1) env) = eval (.Name x p1) env) (hline : (apos.endLine == pos.line) = true)
    (htrees : backTo pos (starEach [e1, e2] env) = [(false, eval e1 env), (false, eval e2 env)]) :
    Tr prog w A kp env m cm ((d, o) :: own) g (eval (.Call (.Attribute (.Name x p1) "get" apos) [e1, e2] [] pos) env) (pI (f j : Int)) := by
  obtain ⟨es, ks, hdo, hp, hb, hf⟩ := hw
  intro s₀ g₁ s Q E k F c
  refine wpAny_Call_method2_late hbase hline htrees (hx s₀ g₁ s _ E k F fun v g' h' tk k1 k2 F' p => ?_)
  cases p
  have hm := (dictOf_own (knd := intKind prog w) (F'.ow _ List.mem_cons_self) hdo)
  refine ⟨"dict", "dict.get", PySem.F.plainAttrs_dict, PySem.F.slot_dict_get, PySem.F.type_dict_get, hm.typeIs, hm.mapOf.noDict, wpAny_dict_get2 (knd := intKind prog w) hd ?_⟩
  refine (h1.lift (k.trans k2)) s₀ g' _ _ E (Sub.refl _) F' fun v1 g'' h'' tk' k3 k4 F'' p => ?_
  refine (h2.lift (k.trans (k2.trans k4))) s₀ g'' _ _ E (Sub.refl _) F'' fun v2 g3 h3 tk3 k5 k6 F3 p2 => ?_
  obtain ⟨t1, rfl⟩ := p
  obtain ⟨t2, rfl⟩ := p2
  have hm3 := (dictOf_own (knd := intKind prog w) (F3.ow _ List.mem_cons_self) hdo)
  refine ⟨(j : Int), _, intKind_is prog w _ t1, hm3.mapOf, ?_⟩
  refine c _ g3 h3 _ (k1.trans (k3.trans k5)) (k2.trans (k4.trans k6)) (F3.tok _) ?_
  obtain ⟨q1, q2⟩ := paired_value (i := j) hp
  by_cases hj : j ∈ ks
  · obtain ⟨t, e⟩ := q1 hj
    exact ⟨t, by rw [e]; rfl⟩
  · have : f j = 0 := by
      cases hz : f j with
      | zero => rfl
      | succ q => exact absurd ((hf j).mp (by omega)) hj
    exact ⟨t2, by rw [q2 hj, this]; rfl⟩

/-- d[j] = e, d of the frame's own -/
theorem x_set {x y : Str} {p1 p2 p3 p4 : Pos} {e : Expr} {rest : List Stmt} {d : Addr} {o : Obj} {N j n : Nat} {f : Nat → Nat} (F : Fm s₀ g kp env m cm ((d, o) :: own) s) (hw : WFo prog w N f o) (hN : N ≤ sizeLine) (hj : j < N) (hn : n ≠ 0)
    (he : Tr prog w A kp env m cm ((d, o) :: own) g (eval e env) (pI (n : Int))) (hx : Tr prog w A kp env m cm ((d, o) :: own) g (eval (.Name x p1) env) (pV (.ref d)))
    (hy : Tr prog w A kp env m cm ((d, o) :: own) g (eval (.Name y p2) env) (pI (j : Int)))
    (hsw : swapsWith e (some (.Subscript (.Name x p1) (.Name y p2) p3)) p4.line env = pure false)
    (c : ∀ o' g' s', Sub g g' → WFo prog w N (setF f j n) o' → Fm s₀ g' kp env m cm ((d, o') :: own) s' → wpAny (model prog w) A (execs rest env) Q E s') :
    wpAny (model prog w) A (execs (.Assign [.Subscript (.Name x p1) (.Name y p2) p3] e p4 :: rest) env) Q E s := by
  obtain ⟨es, ks, hdo, hp, hb, hf⟩ := hw
  refine wpAny_execs_cons (wpAny_Assign_Subscript (he s₀ g s _ E (Sub.refl _) F fun v g' h' tk k1 k2 F' p => ?_) hsw)
  refine (hx.lift k2) s₀ g' _ _ E (Sub.refl _) F' fun v1 g'' h'' tk' k3 k4 F'' p1 => ?_
  refine (hy.lift (k2.trans k4)) s₀ g'' _ _ E (Sub.refl _) F'' fun v2 g3 h3 tk3 k5 k6 F3 p2 => ?_
  obtain ⟨t, rfl⟩ := p
  cases p1
  obtain ⟨t2, rfl⟩ := p2
  have hlen : es.length ≤ sizeLine := by
    have := hp.length
    have := length_le_of_nodup (keys_nodup hdo hp) hb
    omega
  refine wpAny_setItem_pairs (knd := intKind prog w) (intKind_is prog w (j : Int) t2) (dictOf_own (F3.ow _ List.mem_cons_self) hdo) (fun h4 hd4 hs4 => ?_) hlen
  obtain ⟨o', ho', hd'⟩ := Heap.dictOf_iff.mp hd4
  exact c o' g3 _ (k2.trans (k4.trans k6)) (WFo.stored hp hb hf hj hn hd') (F3.change hs4 ho')
/-- j in d, d of the frame's own -/
theorem te_in {l r : Expr} {pos : Pos} {whole : Sem Value} {d : Addr} {o : Obj} {N j : Nat} {f : Nat → Nat} (hd : (d == sysModules) = false) (hw : WFo prog w N f o)
    (hl : Tr prog w A kp env m cm ((d, o) :: own) g (eval l env) (pI (j : Int))) (hr : Tr prog w A kp env m cm ((d, o) :: own) g (eval r env) (pV (.ref d))) (hm : behindInMarks .In r = false) :
    Tr prog w A kp env m cm ((d, o) :: own) g (isTrue (.Compare l [.In] [r] pos) env whole) (pT (decide (f j ≠ 0))) := by
  obtain ⟨es, ks, hdo, hp, hb, hf⟩ := hw
  have hsome : (valueAt es (j : Int)).isSome = decide (f j ≠ 0) := by
    obtain ⟨q1, q2⟩ := paired_value (i := j) hp
    by_cases hj : j ∈ ks
    · obtain ⟨t, e⟩ := q1 hj
      rw [e, decide_eq_true ((hf j).mpr hj)]; rfl
    · rw [q2 hj, decide_eq_false fun h => hj ((hf j).mp h)]; rfl
  rw [← hsome]
  refine te_cmp (P2 := fun a _ b => (∃ t, a = .int (j : Int) t) ∧ b = .ref d) hm hl (fun g₁ a k pa => (hr.lift k).post fun _ _ _ pb => ⟨pa, pb⟩) ?_
  rintro g₂ _ _ k ⟨⟨t, rfl⟩, rfl⟩
  exact Tr.prim fun _ _ s Q E _ F c => wpAny_in_of (knd := intKind prog w) (intKind_is prog w (j : Int) t) hd (dictOf_own (F.ow _ List.mem_cons_self) hdo).mapOf (c _ _ rfl)
/-- d[j], d of the frame's own -/
theorem ev_itemO {value slice : Expr} {pos : Pos} {d : Addr} {o : Obj} {N j : Nat} {f : Nat → Nat} (hw : WFo prog w N f o) (hj : f j ≠ 0) (h1 : Tr prog w A kp env m cm ((d, o) :: own) g (eval value env) (pV (.ref d)))
    (h2 : Tr prog w A kp env m cm ((d, o) :: own) g (eval slice env) (pI (j : Int)))
    (hs : ∀ t, subscripted slice false (.ref d) (.int (j : Int) t) = operate [.ref d, .int (j : Int) t] (getItem (.ref d) (.int (j : Int) t))) :
    Tr prog w A kp env m cm ((d, o) :: own) g (eval (.Subscript value slice pos) env) (pI (f j : Int)) := by
  obtain ⟨es, ks, hdo, hp, hb, hf⟩ := hw
  refine ev_item (P2 := fun x g' b => x = .ref d ∧ ∃ t, b = .int (j : Int) t) h1 (fun g₁ x k hp => (h2.lift k).post fun g' b k' hb => ⟨hp, hb⟩) ?_
  rintro g₂ _ _ k ⟨rfl, ⟨t, rfl⟩⟩
  obtain ⟨t1, e1⟩ := (paired_value hp).1 ((hf j).mp hj)
  refine Tr.prim fun _ g₃ s Q E k3 F c => ?_
  have hm := dictOf_own (knd := intKind prog w) (F.ow _ List.mem_cons_self) hdo
  exact tail_any hm.typeIs PySem.slot_dict_getitem.lookup (wpAny_getItem_of (knd := intKind prog w) (intKind_is prog w (j : Int) t) hm.mapOf e1 (c _ _ ⟨_, rfl⟩)) (hs t)
end
end Mine

namespace Mine
open PySem PySem.Calls PyProof.Rows PySem.W

theorem ofS_inj {a b : String} : (Str.ofString a = Str.ofString b) = (a = b) := by
  apply propext
  constructor
  · intro h
    rw [Str.ofString_eq_toList, Str.ofString_eq_toList] at h
    have h1 : (a.toList.map Char.toNat) = b.toList.map Char.toNat := by simpa using h
    have h2 : a.toList = b.toList := by
      refine List.map_inj_right (f := Char.toNat) (fun x y e => ?_) |>.mp h1
      exact Char.toNat_inj.mp e
    exact String.toList_inj.mp h2
  · intro h; rw [h]

/-! ## Lists -/
def pL (vs : List Value) : Heap → Value → Prop := fun g v => ∃ a o, v = .ref a ∧ g.get? a = some o ∧ LObj o vs
def pStrs (xs : List Str) : Heap → Value → Prop := fun g v => ∃ vs, pL vs g v ∧ StrsAre vs xs
def pInts (ns : List Int) : Heap → Value → Prop := fun g v => ∃ vs, pL vs g v ∧ IntsAre vs ns
def pRows (rows : List (List Int)) : Heap → Value → Prop := fun g v => ∃ vs, pL vs g v ∧ Paired (fun u row => pInts row g u) vs rows
theorem mono_L (vs : List Value) : Mono (pL vs) := fun _ _ _ k ⟨a, o, e, h, r⟩ => ⟨a, o, e, k _ _ h, r⟩
theorem mono_Strs (xs : List Str) : Mono (pStrs xs) := fun _ _ _ k ⟨vs, h, r⟩ => ⟨vs, mono_L vs _ _ _ k h, r⟩
theorem mono_Ints (xs : List Int) : Mono (pInts xs) := fun _ _ _ k ⟨vs, h, r⟩ => ⟨vs, mono_L vs _ _ _ k h, r⟩
theorem Paired.imp' {α β : Type} {F F' : α → β → Prop} (h : ∀ a b, F a b → F' a b) : ∀ {l₁ : List α} {l₂ : List β}, Paired F l₁ l₂ → Paired F' l₁ l₂
  | _, _, .nil => .nil
  | _, _, .cons x r => .cons (h _ _ x) (Paired.imp' h r)
theorem mono_Rows (rows : List (List Int)) : Mono (pRows rows) := fun _ _ _ k ⟨vs, h, r⟩ => ⟨vs, mono_L vs _ _ _ k h, Paired.imp' (fun _ _ q => mono_Ints _ _ _ _ k q) r⟩
theorem Paired.at' {α β : Type} {F : α → β → Prop} : ∀ {l₁ : List α} {l₂ : List β}, Paired F l₁ l₂ → ∀ {i : Nat} {b : β}, l₂[i]? = some b → ∃ a, l₁[i]? = some a ∧ F a b
  | _, _, .nil, _, _, h => by simp at h
  | _, _, .cons x r, 0, b, h => by simp at h; subst h; exact ⟨_, rfl, x⟩
  | _, _, .cons x r, i + 1, b, h => by simp at h; obtain ⟨a, h1, h2⟩ := Paired.at' r h; exact ⟨a, by simpa using h1, h2⟩
theorem Paired.at2 {α β : Type} {F : α → β → Prop} : ∀ {l₁ : List α} {l₂ : List β}, Paired F l₁ l₂ → ∀ {i : Nat} {a : α}, l₁[i]? = some a → ∃ b, l₂[i]? = some b ∧ F a b
  | _, _, .nil, _, _, h => by simp at h
  | _, _, .cons x r, 0, b, h => by simp at h; subst h; exact ⟨_, rfl, x⟩
  | _, _, .cons x r, i + 1, b, h => by simp at h; obtain ⟨a, h1, h2⟩ := Paired.at2 r h; exact ⟨a, by simpa using h1, h2⟩

section
variable {prog : Program} {w : World} {A : Around} {kp own : List (Addr × Obj)} {env : Env} {m cm : Str → Option Value} {g : Heap} {s₀ s : Shared} {Q : Flow → Shared → Prop} {E : Value → Shared → Prop}

theorem ev_L {x : Str} {pos : Pos} {v : Value} (hv : m x = some v) (hl : env.kindOf x = some .local := by rfl) (hk : env.scope.kind = .function := by rfl) (hd : (x == ("__debug__" : Str)) = false := by rfl) :
    Tr prog w A kp env m cm own g (eval (.Name x pos) env) (pV v) := ev_loc hv hl hk hd
theorem ev_LI {x : Str} {pos : Pos} {i : Int} {t : Tok} (hv : m x = some (.int i t)) (hl : env.kindOf x = some .local := by rfl) (hk : env.scope.kind = .function := by rfl) (hd : (x == ("__debug__" : Str)) = false := by rfl) :
    Tr prog w A kp env m cm own g (eval (.Name x pos) env) (pI i) := (ev_loc hv hl hk hd).post fun _ _ _ h => ⟨t, h⟩
theorem ev_LS {x y : Str} {pos : Pos} {t : Tok} (hv : m x = some (.str y t)) (hl : env.kindOf x = some .local := by rfl) (hk : env.scope.kind = .function := by rfl) (hd : (x == ("__debug__" : Str)) = false := by rfl) :
    Tr prog w A kp env m cm own g (eval (.Name x pos) env) (pS y) := (ev_loc hv hl hk hd).post fun _ _ _ h => ⟨t, h⟩
/-- a name whose value bears a word -/
theorem ev_LP {x : Str} {pos : Pos} {v : Value} {P : Heap → Value → Prop} (hv : m x = some v) (hP : P g v) (hm : Mono P) (hl : env.kindOf x = some .local := by rfl) (hk : env.scope.kind = .function := by rfl) (hd : (x == ("__debug__" : Str)) = false := by rfl) :
    Tr prog w A kp env m cm own g (eval (.Name x pos) env) P := (ev_loc hv hl hk hd).post fun g' _ k h => by cases h; exact hm _ _ _ k hP
theorem ev_CP {x : Str} {pos : Pos} {v : Value} {a : Addr} {P : Heap → Value → Prop} (hv : cm x = some v) (hP : P g v) (hm : Mono P) (hc : env.cells.lookup x = some a) (hl : env.kindOf x = some .cell := by rfl) (hk : env.scope.kind = .function := by rfl) (hd : (x == ("__debug__" : Str)) = false := by rfl) :
    Tr prog w A kp env m cm own g (eval (.Name x pos) env) P := (ev_cell hv hl hc hk hd).post fun g' _ k h => by cases h; exact hm _ _ _ k hP

/-- an item of a list -/
theorem ev_itemV {value slice : Expr} {pos : Pos} {vs : List Value} {i : Nat} {u : Value} (h1 : Tr prog w A kp env m cm own g (eval value env) (pL vs)) (h2 : Tr prog w A kp env m cm own g (eval slice env) (pI (i : Int)))
    (hi : vs[i]? = some u) (hb : i < 2 ^ 62) (hs : ∀ a t, subscripted slice false (.ref a) (.int (i : Int) t) = operate [.ref a, .int (i : Int) t] (getItem (.ref a) (.int (i : Int) t))) :
    Tr prog w A kp env m cm own g (eval (.Subscript value slice pos) env) (pV u) := by
  refine ev_item (P2 := fun a g' b => pL vs g' a ∧ ∃ t, b = .int (i : Int) t) h1 (fun g₁ a k hp => (h2.lift k).post fun g' b k' hb => ⟨mono_L _ _ _ _ k' hp, hb⟩) ?_
  rintro g₂ _ _ k ⟨⟨a, o, rfl, ho, lo⟩, ⟨t, rfl⟩⟩
  refine Tr.prim fun _ g₃ s Q E k3 F c => ?_
  have hl := lo.isList (F.keep _ _ (k3 _ _ ho))
  exact tail_any hl.typeIs PySem.slot_list_getitem.lookup (wpAny_getItem_list hl (by omega) (by omega) (by simpa using hi) (c _ s.toks rfl)) (hs a t)
theorem ev_itemS {value slice : Expr} {pos : Pos} {xs : List Str} {i : Nat} {x : Str} (h1 : Tr prog w A kp env m cm own g (eval value env) (pStrs xs)) (h2 : Tr prog w A kp env m cm own g (eval slice env) (pI (i : Int)))
    (hi : xs[i]? = some x) (hb : i < 2 ^ 62) (hs : ∀ a t, subscripted slice false (.ref a) (.int (i : Int) t) = operate [.ref a, .int (i : Int) t] (getItem (.ref a) (.int (i : Int) t))) :
    Tr prog w A kp env m cm own g (eval (.Subscript value slice pos) env) (pS x) := by
  refine ev_item (P2 := fun a g' b => pStrs xs g' a ∧ ∃ t, b = .int (i : Int) t) h1 (fun g₁ a k hp => (h2.lift k).post fun g' b k' hb => ⟨mono_Strs _ _ _ _ k' hp, hb⟩) ?_
  rintro g₂ _ _ k ⟨⟨vs, ⟨a, o, rfl, ho, lo⟩, hx⟩, ⟨t, rfl⟩⟩
  obtain ⟨u, hu⟩ := hx.at hi
  refine Tr.prim fun _ g₃ s Q E k3 F c => ?_
  have hl := lo.isList (F.keep _ _ (k3 _ _ ho))
  exact tail_any hl.typeIs PySem.slot_list_getitem.lookup (wpAny_getItem_list hl (by omega) (by omega) (by simpa using hu) (c _ s.toks ⟨_, rfl⟩)) (hs a t)
theorem ev_itemR {value slice : Expr} {pos : Pos} {rows : List (List Int)} {i : Nat} {row : List Int} (h1 : Tr prog w A kp env m cm own g (eval value env) (pRows rows)) (h2 : Tr prog w A kp env m cm own g (eval slice env) (pI (i : Int)))
    (hi : rows[i]? = some row) (hb : i < 2 ^ 62) (hs : ∀ a t, subscripted slice false (.ref a) (.int (i : Int) t) = operate [.ref a, .int (i : Int) t] (getItem (.ref a) (.int (i : Int) t))) :
    Tr prog w A kp env m cm own g (eval (.Subscript value slice pos) env) (pInts row) := by
  refine ev_item (P2 := fun a g' b => pRows rows g' a ∧ ∃ t, b = .int (i : Int) t) h1 (fun g₁ a k hp => (h2.lift k).post fun g' b k' hb => ⟨mono_Rows _ _ _ _ k' hp, hb⟩) ?_
  rintro g₂ _ _ k ⟨⟨vs, ⟨a, o, rfl, ho, lo⟩, hx⟩, ⟨t, rfl⟩⟩
  obtain ⟨u, hu, hr⟩ := Paired.at' hx hi
  intro s₀ g₃ s Q E k3 F c
  have hl := lo.isList (F.keep _ _ (k3 _ _ ho))
  exact tail_any hl.typeIs PySem.slot_list_getitem.lookup (wpAny_getItem_list hl (by omega) (by omega) (by simpa using hu) (c _ g₃ s.heap s.toks (Sub.refl _) (Sub.refl _) F (mono_Ints _ _ _ _ k3 hr))) (hs a t)

/-- x in a list of texts -/
theorem te_inS {l r : Expr} {pos : Pos} {whole : Sem Value} {x : Str} {xs : List Str} (hl : Tr prog w A kp env m cm own g (eval l env) (pS x)) (hr : Tr prog w A kp env m cm own g (eval r env) (pStrs xs)) (hm : behindInMarks .In r = false) :
    Tr prog w A kp env m cm own g (isTrue (.Compare l [.In] [r] pos) env whole) (pT (xs.any (· == x))) := by
  refine te_cmp (P2 := fun a g' b => (∃ t, a = .str x t) ∧ pStrs xs g' b) hm hl (fun g₁ a k pa => (hr.lift k).post fun _ _ _ pb => ⟨pa, pb⟩) ?_
  rintro g₂ _ _ k ⟨⟨t, rfl⟩, vs, ⟨a, o, rfl, ho, lo⟩, hx⟩
  exact Tr.prim fun _ _ s Q E k3 F c => in_list_strs (lo.isList (F.keep _ _ (k3 _ _ ho))) hx (c _ s.toks rfl)
theorem te_inI {l r : Expr} {pos : Pos} {whole : Sem Value} {x : Int} {xs : List Int} (hl : Tr prog w A kp env m cm own g (eval l env) (pI x)) (hr : Tr prog w A kp env m cm own g (eval r env) (pInts xs)) (hm : behindInMarks .In r = false) :
    Tr prog w A kp env m cm own g (isTrue (.Compare l [.In] [r] pos) env whole) (pT (xs.any (· == x))) := by
  refine te_cmp (P2 := fun a g' b => (∃ t, a = .int x t) ∧ pInts xs g' b) hm hl (fun g₁ a k pa => (hr.lift k).post fun _ _ _ pb => ⟨pa, pb⟩) ?_
  rintro g₂ _ _ k ⟨⟨t, rfl⟩, vs, ⟨a, o, rfl, ho, lo⟩, hx⟩
  exact Tr.prim fun _ _ s Q E k3 F c => in_list_ints (lo.isList (F.keep _ _ (k3 _ _ ho))) hx (c _ s.toks rfl)
theorem te_ninI {l r : Expr} {pos : Pos} {whole : Sem Value} {x : Int} {xs : List Int} (hl : Tr prog w A kp env m cm own g (eval l env) (pI x)) (hr : Tr prog w A kp env m cm own g (eval r env) (pInts xs)) (hm : behindInMarks .NotIn r = false) :
    Tr prog w A kp env m cm own g (isTrue (.Compare l [.NotIn] [r] pos) env whole) (pT (!(xs.any (· == x)))) := by
  refine te_cmp (P2 := fun a g' b => (∃ t, a = .int x t) ∧ pInts xs g' b) hm hl (fun g₁ a k pa => (hr.lift k).post fun _ _ _ pb => ⟨pa, pb⟩) ?_
  rintro g₂ _ _ k ⟨⟨t, rfl⟩, vs, ⟨a, o, rfl, ho, lo⟩, hx⟩
  exact Tr.prim fun _ _ s Q E k3 F c => notin_list_ints (lo.isList (F.keep _ _ (k3 _ _ ho))) hx (c _ s.toks rfl)

/-! ### built-in calls -/
theorem big_heap {mg : Str → Option Value} {h : Heap} (hg : g.Ns mainGlobals mg) (k : Sub g h) : (h.objs.size == sysModules) = false := by
  have h3 : (3 : Nat) < h.objs.size := (hg.keeps k).lt
  rw [beq_eq_false_iff_ne]
  intro e
  have e' : h.objs.size = (1 : Nat) := e
  omega
theorem ev_biG {mg mb : Str → Option Value} {x : String} {pos : Pos} {v : Value} (G : Gd mg mb g) (hx : x ∈ ["len", "range", "dict", "list", "sum"]) (hv : bootBuiltins (Str.ofString x) = some v) (hg : env.globals = mainGlobals := by rfl) (hb : env.builtins = builtinsNs := by rfl)
    (hl : env.kindOf (Str.ofString x) = some .globalImplicit := by rfl) (hk : env.scope.kind = .function := by rfl) (hd : (Str.ofString x == ("__debug__" : Str)) = false := by rfl) : Tr prog w A kp env m cm own g (eval (.Name (Str.ofString x) pos) env) (pV v) :=
  ev_bi (by rw [hg]; exact G.g) (G.bi x hx).1 (by rw [hb]; exact G.b) ((G.bi x hx).2.trans hv) hl hk hd
theorem boot_len : bootBuiltins "len" = some (.builtin "len") := by decide +kernel
theorem boot_range : bootBuiltins "range" = some (.type "range") := by decide +kernel
theorem boot_dict : bootBuiltins "dict" = some (.type "dict") := by decide +kernel
theorem boot_list : bootBuiltins "list" = some (.type "list") := by decide +kernel
theorem boot_sum : bootBuiltins "sum" = some (.builtin "sum") := by decide +kernel

theorem call_len_L {a : Addr} {o : Obj} {vs : List Value} {Q : Value → Shared → Prop} {E : Value → Shared → Prop} {s : Shared} (ho : s.heap.get? a = some o) (lo : LObj o vs) (hsz : vs.length < 2 ^ 62)
    (h : Q (.int (vs.length : Int) (s.toks + 1)) { s with toks := s.toks + 1 + 1 }) : wpAny (model prog w) A (call (.builtin "len") [.ref a]) Q E s := by
  have e : vs.toArray.size = vs.length := by simp
  refine call_len_list (lo.isList ho) (by rw [e]; omega) ?_
  rw [e]; exact h
theorem ev_len {mg mb : Str → Option Value} {p pos : Pos} {e : Expr} {vs : List Value} (G : Gd mg mb g) (he : Tr prog w A kp env m cm own g (eval e env) (pL vs)) (hsz : vs.length < 2 ^ 62)
    (hs : starEach [e] env = [(false, eval e env)] := by rfl) (hg : env.globals = mainGlobals := by rfl) (hb : env.builtins = builtinsNs := by rfl)
    (hl : env.kindOf (Str.ofString "len") = some .globalImplicit := by rfl) (hk : env.scope.kind = .function := by rfl) :
    Tr prog w A kp env m cm own g (eval (.Call (.Name (Str.ofString "len") p) [e] [] pos) env) (pI (vs.length : Int)) := by
  refine ev_callB (R := AllP [pL vs]) (ev_biG G (by simp) boot_len hg hb hl hk) (args_cons (mono_L vs) he args_nil (by rw [hs]; rfl)) (by rw [hs]; rfl) (by rw [hs]; rfl) ?_
  rintro g₁ _ k ⟨_, _, rfl, ⟨a, o, rfl, ho, lo⟩, rfl⟩
  refine Tr.prim fun _ _ s Q E k3 F c => call_len_L (F.keep _ _ (k3 _ _ ho)) lo hsz (c _ _ ⟨_, rfl⟩)
theorem ev_lenS {mg mb : Str → Option Value} {p pos : Pos} {e : Expr} {xs : List Str} (G : Gd mg mb g) (he : Tr prog w A kp env m cm own g (eval e env) (pStrs xs)) (hsz : xs.length < 2 ^ 62)
    (hs : starEach [e] env = [(false, eval e env)] := by rfl) (hg : env.globals = mainGlobals := by rfl) (hb : env.builtins = builtinsNs := by rfl)
    (hl : env.kindOf (Str.ofString "len") = some .globalImplicit := by rfl) (hk : env.scope.kind = .function := by rfl) :
    Tr prog w A kp env m cm own g (eval (.Call (.Name (Str.ofString "len") p) [e] [] pos) env) (pI (xs.length : Int)) := by
  refine ev_callB (R := AllP [pStrs xs]) (ev_biG G (by simp) boot_len hg hb hl hk) (args_cons (mono_Strs xs) he args_nil (by rw [hs]; rfl)) (by rw [hs]; rfl) (by rw [hs]; rfl) ?_
  rintro g₁ _ k ⟨_, _, rfl, ⟨vs, ⟨a, o, rfl, ho, lo⟩, hx⟩, rfl⟩
  have := hx.len_eq
  refine Tr.prim fun _ _ s Q E k3 F c => call_len_L (F.keep _ _ (k3 _ _ ho)) lo (by omega) (c _ _ ⟨_, by rw [this]⟩)
theorem ev_lenR {mg mb : Str → Option Value} {p pos : Pos} {e : Expr} {xs : List (List Int)} (G : Gd mg mb g) (he : Tr prog w A kp env m cm own g (eval e env) (pRows xs)) (hsz : xs.length < 2 ^ 62)
    (hs : starEach [e] env = [(false, eval e env)] := by rfl) (hg : env.globals = mainGlobals := by rfl) (hb : env.builtins = builtinsNs := by rfl)
    (hl : env.kindOf (Str.ofString "len") = some .globalImplicit := by rfl) (hk : env.scope.kind = .function := by rfl) :
    Tr prog w A kp env m cm own g (eval (.Call (.Name (Str.ofString "len") p) [e] [] pos) env) (pI (xs.length : Int)) := by
  refine ev_callB (R := AllP [pRows xs]) (ev_biG G (by simp) boot_len hg hb hl hk) (args_cons (mono_Rows xs) he args_nil (by rw [hs]; rfl)) (by rw [hs]; rfl) (by rw [hs]; rfl) ?_
  rintro g₁ _ k ⟨_, _, rfl, ⟨vs, ⟨a, o, rfl, ho, lo⟩, hx⟩, rfl⟩
  have := hx.length
  refine Tr.prim fun _ _ s Q E k3 F c => call_len_L (F.keep _ _ (k3 _ _ ho)) lo (by omega) (c _ _ ⟨_, by rw [this]⟩)
theorem ev_range1 {mg mb : Str → Option Value} {p pos : Pos} {e : Expr} {n : Int} (G : Gd mg mb g) (he : Tr prog w A kp env m cm own g (eval e env) (pI n))
    (hs : starEach [e] env = [(false, eval e env)] := by rfl) (hg : env.globals = mainGlobals := by rfl) (hb : env.builtins = builtinsNs := by rfl)
    (hl : env.kindOf (Str.ofString "range") = some .globalImplicit := by rfl) (hk : env.scope.kind = .function := by rfl) :
    Tr prog w A kp env m cm own g (eval (.Call (.Name (Str.ofString "range") p) [e] [] pos) env) (pRange 0 n) := by
  refine ev_callT (R := AllP [pI n]) (ev_biG G (by simp) boot_range hg hb hl hk) (args_cons (mono_I n) he args_nil (by rw [hs]; rfl)) (by rw [hs]; rfl) (by rw [hs]; rfl) ?_
  rintro g₁ _ k ⟨_, _, rfl, ⟨t, rfl⟩, rfl⟩
  refine Tr.alloc (mono_range 0 n) fun _ _ s Q E k3 F c => call_range_1 (c _ _ _ (Sub.push _ _) ⟨_, _, _, _, rfl, minus_get (Heap.get?_push_size _ rfl) (get?_size _)⟩)
theorem ev_range2 {mg mb : Str → Option Value} {p pos : Pos} {e e' : Expr} {n n' : Int} (G : Gd mg mb g) (he : Tr prog w A kp env m cm own g (eval e env) (pI n)) (he' : Tr prog w A kp env m cm own g (eval e' env) (pI n'))
    (hs : starEach [e, e'] env = [(false, eval e env), (false, eval e' env)] := by rfl) (hs1 : starEach [e'] env = [(false, eval e' env)] := by rfl) (hg : env.globals = mainGlobals := by rfl) (hb : env.builtins = builtinsNs := by rfl)
    (hl : env.kindOf (Str.ofString "range") = some .globalImplicit := by rfl) (hk : env.scope.kind = .function := by rfl) :
    Tr prog w A kp env m cm own g (eval (.Call (.Name (Str.ofString "range") p) [e, e'] [] pos) env) (pRange n n') := by
  refine ev_callT (R := AllP [pI n, pI n']) (ev_biG G (by simp) boot_range hg hb hl hk) (args_cons (mono_I n) he (args_cons (mono_I n') he' args_nil (by rw [hs1]; rfl)) (by rw [hs, hs1])) (by rw [hs, hs1]) (by rw [hs]; rfl) ?_
  rintro g₁ _ k ⟨_, _, rfl, ⟨t, rfl⟩, _, _, rfl, ⟨u, rfl⟩, rfl⟩
  refine Tr.alloc (mono_range n n') fun _ _ s Q E k3 F c => call_range_2 (c _ _ _ (Sub.push _ _) ⟨_, _, _, _, rfl, minus_get (Heap.get?_push_size _ rfl) (get?_size _)⟩)
/-- dict(d) -/
theorem ev_dictOf {mg mb : Str → Option Value} {p pos : Pos} {e : Expr} {N : Nat} {f : Nat → Nat} (G : Gd mg mb g) (hN : N ≤ sizeLine) (he : Tr prog w A kp env m cm own g (eval e env) (pW prog w N f))
    (hs : starEach [e] env = [(false, eval e env)] := by rfl) (hg : env.globals = mainGlobals := by rfl) (hb : env.builtins = builtinsNs := by rfl)
    (hl : env.kindOf (Str.ofString "dict") = some .globalImplicit := by rfl) (hk : env.scope.kind = .function := by rfl) :
    Tr prog w A kp env m cm own g (eval (.Call (.Name (Str.ofString "dict") p) [e] [] pos) env) (pNew g fun a o => (a == sysModules) = false ∧ WFo prog w N f o) := by
  refine ev_callT (R := AllP [pW prog w N f]) (ev_biG G (by simp) boot_dict hg hb hl hk) (args_cons (mono_W prog w N f) he args_nil (by rw [hs]; rfl)) (by rw [hs]; rfl) (by rw [hs]; rfl) ?_
  rintro g₁ _ k ⟨_, _, rfl, ⟨a, o, rfl, hsm, ho, es, ks, hdo, hp, hbd, hf⟩, rfl⟩
  have hlen : es.length ≤ sizeLine := by
    have := hp.length
    have := length_le_of_nodup (keys_nodup hdo hp) hbd
    omega
  refine Tr.alloc (mono_new _ _) fun _ g₂ s Q E k3 F c => kt_call_dict (knd := intKind prog w) hsm (dictOf_own (F.keep _ _ (k3 _ _ ho)) hdo) hlen fun h' hd' hsb => ?_
  obtain ⟨o', ho', hd''⟩ := Heap.dictOf_iff.mp hd'
  have hsub : Sub s.heap h' := fun b q e => (hsb.2 b fun e2 => by rw [e2, get?_size] at e; cases e).trans (Heap.get?_push_of_some _ e)
  have hgs : Sub g s.heap := k.trans (k3.trans F.keep)
  exact c _ h' s.toks hsub ⟨_, o', rfl, minus_get ho' (get?_size _), fresh_size hgs, big_heap G.g hgs, es, ks, hd'', hp, hbd, hf⟩
/-- {} -/
theorem ev_dict0 {mg mb : Str → Option Value} {pos : Pos} {N : Nat} (G : Gd mg mb g) : Tr prog w A kp env m cm own g (eval (.Dict [] [] pos) env) (pNew g fun a o => (a == sysModules) = false ∧ WFo prog w N (fun _ => 0) o) := by
  refine Tr.alloc (mono_new _ _) fun _ g₂ s Q E k3 F c => wpAny_Dict_empty ?_
  have hgs : Sub g s.heap := k3.trans F.keep
  have hd : (s.heap.push { cls := .type "dict", data := .dict #[] }).DictOf (intKind prog w) s.heap.objs.size [] := Heap.DictOf.new s.heap
  obtain ⟨o', ho', hd''⟩ := Heap.dictOf_iff.mp hd
  exact c _ _ s.toks (Sub.push _ _) ⟨_, o', rfl, minus_get ho' (get?_size _), fresh_size hgs, big_heap G.g hgs, WFo.new hd''⟩
end
end Mine

namespace Mine
open PySem PySem.Calls PyProof.Rows PySem.W

theorem key_nat {prog : Program} {w : World} {f : Nat → Nat} {es : List (Int × Value)} {ks : List Nat} (p : Paired (Ent f) es ks) {i : Nat} {v : Value} (h : ∃ k x, es[i]? = some (k, x) ∧ (intKind prog w).is k v = true) :
    ∃ j t, ks[i]? = some j ∧ v = .int ((j : Nat) : Int) t := by
  obtain ⟨k, x, h1, h2⟩ := h
  obtain ⟨j, hj, t, e⟩ := Paired.at2 p h1
  obtain ⟨t2, rfl⟩ := Value.isInt_shape h2
  cases e
  exact ⟨j, t2, hj, rfl⟩

/-- d[j], d frozen, j a key of it -/
theorem ev_itemW {prog : Program} {w : World} {A : Around} {kp own : List (Addr × Obj)} {env : Env} {m cm : Str → Option Value} {g : Heap} {value slice : Expr} {pos : Pos} {a : Addr} {o : Obj} {es : List (Int × Value)} {ks : List Nat} {f : Nat → Nat} {i : Nat}
    (ho : g.get? a = some o) (hd : o.IsDictOf (intKind prog w) es) (hp : Paired (Ent f) es ks) (hi : i ∈ ks) (h1 : Tr prog w A kp env m cm own g (eval value env) (pV (.ref a))) (h2 : Tr prog w A kp env m cm own g (eval slice env) (pI (i : Int)))
    (hs : ∀ t, subscripted slice false (.ref a) (.int (i : Int) t) = operate [.ref a, .int (i : Int) t] (getItem (.ref a) (.int (i : Int) t))) :
    Tr prog w A kp env m cm own g (eval (.Subscript value slice pos) env) (pI (f i : Int)) := by
  refine ev_item (P2 := fun x g' b => x = .ref a ∧ ∃ t, b = .int (i : Int) t) h1 (fun g₁ x k hp => (h2.lift k).post fun g' b k' hb => ⟨hp, hb⟩) ?_
  rintro g₂ _ _ k ⟨rfl, ⟨t, rfl⟩⟩
  obtain ⟨t1, e1⟩ := (paired_value hp).1 hi
  refine Tr.prim fun _ g₃ s Q E k3 F c => ?_
  have hm := dictOf_own (knd := intKind prog w) (F.keep _ _ (k3 _ _ (k _ _ ho))) hd
  exact tail_any hm.typeIs PySem.slot_dict_getitem.lookup (wpAny_getItem_of (knd := intKind prog w) (intKind_is prog w (i : Int) t) hm.mapOf e1 (c _ _ ⟨_, rfl⟩)) (hs t)

def bothL (f f' : Nat → Nat) (ks : List Nat) : Nat → Nat := ks.foldl (fun acc i => setF acc i (acc i + f' i)) f
theorem bothL_mem {f' : Nat → Nat} : ∀ {ks : List Nat} {f : Nat → Nat}, ks.Nodup → ∀ i, bothL f f' ks i = if i ∈ ks then f i + f' i else f i
  | [], f, _, i => by simp [bothL]
  | k :: ks, f, hn, i => by
    obtain ⟨h1, h2⟩ := List.nodup_cons.mp hn
    show bothL (setF f k (f k + f' k)) f' ks i = _
    rw [bothL_mem h2]
    by_cases hk : i = k
    · subst hk; simp [h1, setF]
    · simp [hk, setF]

theorem both_ok {prog : Program} {w : World} {A : Around} {s : Shared} {mg mb : Str → Option Value} {a : Addr} {pm code doc : Value} {v1 v2 : Value} {N : Nat} {f f' : Nat → Nat} (hA : Aok 1 A) (G : Gd mg mb s.heap) (fn : FnAt mg s.heap 8 a pm code doc)
    (h1 : pW prog w N f s.heap v1) (h2 : pW prog w N f' s.heap v2) (hN : N ≤ 2 ^ 20) : CallOk prog w A a [v1, v2] s (pW prog w N fun i => f i + f' i) := by
  have hNs : N ≤ sizeLine := Nat.le_trans hN (by decide)
  refine call_enter fn (by have := hA.depth; omega) G.nolimit (binds := [(Str.ofString "one", v1), (Str.ofString "other", v2)]) rfl rfl (by decide) rfl rfl rfl ?_
  intro s₁ F E'
  have hAd := (hA.deeper (k := 0) (envF 8 pm code doc s.heap.objs.size a)).hand
  refine x_new F (x := Str.ofString "new") (st_local rfl rfl) (ev_dictOf G hNs (ev_LP (v := v1) rfl h1 (mono_W _ _ _ _))) rfl ?_
  rintro d o g₁ s₂ ⟨hd, hw⟩ k1 F1
  obtain ⟨b, ob, rfl, hbs, hob, es, ks, hdo, hp, hb, hf⟩ := h2
  have hnk := keys_nodup hdo hp
  refine x_for (J := fun i g' m' _ own' => m' (Str.ofString "new") = some (.ref d) ∧ m' (Str.ofString "other") = some (.ref b) ∧ ∃ o', own' = [(d, o')] ∧ WFo prog w N (bothL f f' (ks.take i)) o') (JB := fun _ _ _ _ => False)
    F1 (n := es.length) (P := fun i v => ∃ k x, es[i]? = some (k, x) ∧ (intKind prog w).is k v = true) (Pv := fun _ v => v = .ref b) (ev_L (v := .ref b) rfl) ?_ (st_local rfl rfl) ?_ ?_ ?_ ?_
  · rintro g' v k rfl
    exact itr_dict hAd hbs (dictOf_own (k _ _ (k1 _ _ hob)) hdo)
  · intro g' k
    exact ⟨rfl, rfl, o, rfl, hw⟩
  · rintro kp' i v g₂ m₂ cm₂ own₂ s₃ E'' hi kk hP ⟨hm1, hm2, o', rfl, hw'⟩ F2
    obtain ⟨j, t, hj, rfl⟩ := key_nat hp hP
    have hjk : j ∈ ks := List.mem_of_getElem? hj
    have m1 : fmU (Str.ofString "i") m₂ (.int (j : Int) t) (Str.ofString "new") = some (.ref d) := by simp [fmU, upd, ofS_inj, hm1]
    have m2 : fmU (Str.ofString "i") m₂ (.int (j : Int) t) (Str.ofString "other") = some (.ref b) := by simp [fmU, upd, ofS_inj, hm2]
    have m3 : fmU (Str.ofString "i") m₂ (.int (j : Int) t) (Str.ofString "i") = some (.int (j : Int) t) := by simp [fmU, upd]
    refine x_set (n := bothL f f' (ks.take i) j + f' j) F2 hw' hNs (hb j hjk) (by have := (hf j).mpr hjk; omega) ?_ (ev_L m1) (ev_LI m3) rfl ?_
    · rw [Int.natCast_add]
      exact ev_add (ev_get hd hw' (ev_L m1) (ev_LI m3) ev_int rfl rfl rfl) (ev_itemW (kk _ _ (k1 _ _ hob)) hdo hp hjk (ev_L m2) (ev_LI m3) (fun _ => rfl))
    · intro o'' g₃ s₄ k3 hw'' F3
      refine x_nil ⟨g₃, _, _, _, k3, ⟨m1, m2, o'', rfl, ?_⟩, F3⟩
      have : ks.take (i + 1) = ks.take i ++ [j] := by rw [List.take_add_one, hj]; rfl
      rw [this]
      show WFo prog w N (bothL f f' (ks.take i ++ [j])) o''
      unfold bothL
      rw [List.foldl_append]
      exact hw''
  · rintro g₂ m₂ cm₂ own₂ s₃ kk (⟨hm1, hm2, o', rfl, hw'⟩ | h) F2
    · refine x_ret F2 (ev_L hm1) ?_
      rintro v g₃ s₄ k3 rfl F3
      obtain ⟨h', tk, rfl⟩ := F3.same
      refine ⟨_, h', tk, rfl, rfl, (k1.trans (kk.trans k3)).trans F3.keep, d, o', rfl, hd, minus_get (F3.ow _ List.mem_cons_self) ?_, ?_⟩
      · exact (k1.trans (kk.trans k3)).none (F3.hid _ (mem_hidden_own (p := (d, o')) List.mem_cons_self))
      · have e : bothL f f' (ks.take es.length) = fun i => f i + f' i := by
          have hl := hp.length
          rw [hl, List.take_length]
          funext i
          rw [bothL_mem hnk]
          split
          · rfl
          · rename_i h
            cases hz : f' i with
            | zero => rfl
            | succ q => exact absurd ((hf i).mp (by omega)) h
        rw [← e]; exact hw'
    · exact h.elim
  · intro x; rfl
end Mine

namespace Mine
open PySem PySem.Calls PyProof.Rows PySem.W

theorem walks_imp {prog : Program} {w : World} {A : Around} {I : Addr} {fp wr : List Addr} {n : Nat} {P P' : Nat → Value → Prop} {St : Nat → Heap → Prop} (W : Walks prog w A I fp wr n P St) (hp : ∀ i v, P i v → P' i v) : Walks prog w A I fp wr n P' St :=
  { W with item := fun i s Q E h1 h2 c => W.item i s Q E h1 h2 fun v h' tk p => c v h' tk (hp i v p) }
theorem Itr.imp {prog : Program} {w : World} {A : Around} {g : Heap} {v : Value} {n : Nat} {P P' : Nat → Value → Prop} (h : Itr prog w A g v n P) (hp : ∀ i v, P i v → P' i v) : Itr prog w A g v n P' :=
  fun s Q E k c => h s Q E k fun o St ax W h0 hex hax => c o St ax (walks_imp W hp) h0 hex hax
theorem intsAre_at : ∀ {vs : List Value} {ns : List Int}, IntsAre vs ns → ∀ {i : Nat} {v : Value}, vs[i]? = some v → ∃ n t, ns[i]? = some n ∧ v = .int n t
  | _, _, .nil, _, _, h => by simp at h
  | _, _, .cons n t r, 0, v, h => by simp at h; subst h; exact ⟨n, t, rfl, rfl⟩
  | _, _, .cons n t r, i + 1, v, h => by simp at h; obtain ⟨n, t, h1, h2⟩ := intsAre_at r h; exact ⟨n, t, by simpa using h1, h2⟩
theorem itr_ints {prog : Program} {w : World} {A : Around} {g : Heap} {v : Value} {ns : List Int} (hh : A.handled = none) (h : pInts ns g v) : Itr prog w A g v ns.length (fun i u => ∃ n t, ns[i]? = some n ∧ u = .int n t) := by
  obtain ⟨vs, ⟨a, o, rfl, ho, lo⟩, hi⟩ := h
  rw [← hi.length]
  exact (itr_list hh ho lo).imp fun i v h => intsAre_at hi h

/-! ## plain words -/
def okS (W : List Str) (x : Str) : Bool := W.any (· == x)
def sgA (sg : List Str) (j : Nat) : Str := sg.getD j ⟨#[]⟩
def nxA (nx : List (List Nat)) (i : Nat) : List Nat := nx.getD i []
def toZ (l : List Nat) : List Int := l.map fun j : Nat => (j : Int)
def pNx (nx : List (List Nat)) : Heap → Value → Prop := pRows (nx.map toZ)
theorem mono_Nx (nx : List (List Nat)) : Mono (pNx nx) := mono_Rows _
def bump (f : Nat → Nat) (j v : Nat) : Nat → Nat := setF f j (f j + v)
def usedRow (sg W : List Str) (v : Nat) (acc : Nat → Nat) (row : List Nat) : Nat → Nat := row.foldl (fun acc j => if okS W (sgA sg j) then bump acc j v else acc) acc
def usedL (sg : List Str) (nx : List (List Nat)) (W : List Str) (f : Nat → Nat) (ks : List Nat) : Nat → Nat := ks.foldl (fun acc i => usedRow sg W (f i) acc (nxA nx i)) (fun _ => 0)
theorem foldl_take {α β : Type} (f : β → α → β) (b : β) (l : List α) (i : Nat) (x : α) (h : l[i]? = some x) : (l.take (i + 1)).foldl f b = f ((l.take i).foldl f b) x := by
  rw [List.take_add_one, h]; simp
theorem toZ_at {l : List Nat} {i : Nat} {n : Int} (h : (toZ l)[i]? = some n) : ∃ j : Nat, l[i]? = some j ∧ n = (j : Int) := by
  unfold toZ at h
  rw [List.getElem?_map] at h
  cases e : l[i]? with
  | none => rw [e] at h; cases h
  | some j => rw [e] at h; exact ⟨j, rfl, (Option.some.inj h).symm⟩
theorem toZ_length (l : List Nat) : (toZ l).length = l.length := by simp [toZ]
theorem nx_at {nx : List (List Nat)} {i : Nat} (h : i < nx.length) : (nx.map toZ)[i]? = some (toZ (nxA nx i)) := by
  simp [nxA, h]
theorem sg_at {sg : List Str} {i : Nat} (h : i < sg.length) : sg[i]? = some (sgA sg i) := by
  simp [sgA, h]

/-- the shape of the strip's graph that the walk needs -/
structure NxOk (sg : List Str) (nx : List (List Nat)) : Prop where
  lt : ∀ i, i < nx.length → ∀ j ∈ nxA nx i, j < sg.length
  gt : ∀ i, i < nx.length → ∀ j ∈ nxA nx i, i < j
  len : sg.length = nx.length + 1
  small : nx.length ≤ 2 ^ 20
  last : ∀ i, i < nx.length → ∀ j ∈ nxA nx i, (sgA sg j).length ≠ 0 → j < nx.length

theorem used_ok {prog : Program} {w : World} {A : Around} {s : Shared} {mg mb : Str → Option Value} {a : Addr} {pm code doc : Value} {v1 v2 v3 v4 : Value} {sg W : List Str} {nx : List (List Nat)} {f : Nat → Nat}
    (hA : Aok 1 A) (G : Gd mg mb s.heap) (fn : FnAt mg s.heap 7 a pm code doc) (hn : NxOk sg nx) (hW : ∀ x ∈ W, x.length ≠ 0)
    (h1 : pStrs sg s.heap v1) (h2 : pNx nx s.heap v2) (h3 : pW prog w nx.length f s.heap v3) (h4 : pStrs W s.heap v4) :
    CallOk prog w A a [v1, v2, v3, v4] s (fun g v => ∃ ks : List Nat, ks.Nodup ∧ (∀ i ∈ ks, i < nx.length) ∧ (∀ i, f i ≠ 0 ↔ i ∈ ks) ∧ pW prog w nx.length (usedL sg nx W f ks) g v) := by
  have hNs : nx.length ≤ sizeLine := Nat.le_trans hn.small (by decide)
  refine call_enter fn (by have := hA.depth; omega) G.nolimit (binds := [(Str.ofString "signs", v1), (Str.ofString "nexts", v2), (Str.ofString "ways", v3), (Str.ofString "wished", v4)]) rfl rfl (by decide) rfl rfl rfl ?_
  intro s₁ F E'
  have hAd := (hA.deeper (k := 0) (envF 7 pm code doc s.heap.objs.size a)).hand
  obtain ⟨b, ob, rfl, hbs, hob, es, ks, hdo, hp, hb, hf⟩ := h3
  have hnk := keys_nodup hdo hp
  refine x_new F (x := Str.ofString "new") (st_local rfl rfl) (ev_dict0 (N := nx.length) G) rfl ?_
  rintro d o g₁ s₂ ⟨hd, hw⟩ k1 F1
  refine x_for (J := fun i g' m' _ own' => m' (Str.ofString "new") = some (.ref d) ∧ m' (Str.ofString "signs") = some v1 ∧ m' (Str.ofString "nexts") = some v2 ∧ m' (Str.ofString "ways") = some (.ref b) ∧ m' (Str.ofString "wished") = some v4 ∧
      ∃ o', own' = [(d, o')] ∧ WFo prog w nx.length (usedL sg nx W f (ks.take i)) o') (JB := fun _ _ _ _ => False)
    F1 (n := es.length) (P := fun i v => ∃ k x, es[i]? = some (k, x) ∧ (intKind prog w).is k v = true) (Pv := fun _ v => v = .ref b) (ev_L (v := .ref b) rfl) ?_ (st_local rfl rfl) ?_ ?_ ?_ ?_
  · rintro g' v k rfl
    exact itr_dict hAd hbs (dictOf_own (k _ _ (k1 _ _ hob)) hdo)
  · intro g' k
    exact ⟨rfl, rfl, rfl, rfl, rfl, o, rfl, hw⟩
  · rintro kp' i v g₂ m₂ cm₂ own₂ s₃ E'' hi kk hP ⟨hm1, hm2, hm3, hm4, hm5, o', rfl, hw'⟩ F2
    obtain ⟨j, t, hj, rfl⟩ := key_nat hp hP
    have hjk : j ∈ ks := List.mem_of_getElem? hj
    have hjN := hb j hjk
    have kg : Sub s.heap g₂ := k1.trans kk
    refine x_for (J := fun i' g' m' _ own' => m' (Str.ofString "i") = some (.int (j : Int) t) ∧ m' (Str.ofString "new") = some (.ref d) ∧ m' (Str.ofString "signs") = some v1 ∧ m' (Str.ofString "nexts") = some v2 ∧ m' (Str.ofString "ways") = some (.ref b) ∧ m' (Str.ofString "wished") = some v4 ∧
        ∃ o', own' = [(d, o')] ∧ WFo prog w nx.length (usedRow sg W (f j) (usedL sg nx W f (ks.take i)) ((nxA nx j).take i')) o') (JB := fun _ _ _ _ => False)
      F2 (n := (toZ (nxA nx j)).length) (P := fun i u => ∃ n t, (toZ (nxA nx j))[i]? = some n ∧ u = .int n t) (Pv := pInts (toZ (nxA nx j)))
      (ev_itemR (i := j) (ev_LP (v := v2) (by simp [fmU, upd, ofS_inj, hm3]) (mono_Nx nx _ _ _ kg h2) (mono_Nx nx)) (ev_LI (t := t) (by simp [fmU, upd])) (nx_at hjN) (by have := hn.small; omega) (fun _ _ => rfl))
      (fun g' v k h => itr_ints hAd h) (st_local rfl rfl) ?_ ?_ ?_ ?_
    · intro g' k
      refine ⟨by simp [fmU, upd], by simp [fmU, upd, ofS_inj, hm1], by simp [fmU, upd, ofS_inj, hm2], by simp [fmU, upd, ofS_inj, hm3], by simp [fmU, upd, ofS_inj, hm4], by simp [fmU, upd, ofS_inj, hm5], o', rfl, hw'⟩
    · rintro kp3 i' v g₃ m₃ cm₃ own₃ s₄ E3 hi' kk3 ⟨z, t', hz, rfl⟩ ⟨q0, q1, q2, q3, q4, q5, o3, rfl, hw3⟩ F3
      obtain ⟨j', hj', rfl⟩ := toZ_at hz
      have hmem : j' ∈ nxA nx j := List.mem_of_getElem? hj'
      have kg3 : Sub s.heap g₃ := kg.trans kk3
      have hjs := hn.lt j hjN j' hmem
      have M0 : fmU (Str.ofString "j") m₃ (.int (j' : Int) t') (Str.ofString "i") = some (.int (j : Int) t) := by simp [fmU, upd, ofS_inj, q0]
      have M1 : fmU (Str.ofString "j") m₃ (.int (j' : Int) t') (Str.ofString "new") = some (.ref d) := by simp [fmU, upd, ofS_inj, q1]
      have M2 : fmU (Str.ofString "j") m₃ (.int (j' : Int) t') (Str.ofString "signs") = some v1 := by simp [fmU, upd, ofS_inj, q2]
      have M3 : fmU (Str.ofString "j") m₃ (.int (j' : Int) t') (Str.ofString "nexts") = some v2 := by simp [fmU, upd, ofS_inj, q3]
      have M4 : fmU (Str.ofString "j") m₃ (.int (j' : Int) t') (Str.ofString "ways") = some (.ref b) := by simp [fmU, upd, ofS_inj, q4]
      have M5 : fmU (Str.ofString "j") m₃ (.int (j' : Int) t') (Str.ofString "wished") = some v4 := by simp [fmU, upd, ofS_inj, q5]
      have MJ : fmU (Str.ofString "j") m₃ (.int (j' : Int) t') (Str.ofString "j") = some (.int (j' : Int) t') := by simp [fmU, upd]
      have hstep : usedRow sg W (f j) (usedL sg nx W f (ks.take i)) ((nxA nx j).take (i' + 1)) =
          (fun acc => if okS W (sgA sg j') then bump acc j' (f j) else acc) (usedRow sg W (f j) (usedL sg nx W f (ks.take i)) ((nxA nx j).take i')) := foldl_take _ _ _ _ _ hj'
      refine x_if F3 (te_inS (ev_itemS (i := j') (ev_LP M2 (mono_Strs sg _ _ _ kg3 h1) (mono_Strs sg)) (ev_LI MJ) (sg_at hjs) (by have := hn.len; have := hn.small; omega) (fun _ _ => rfl)) (ev_LP M5 (mono_Strs W _ _ _ kg3 h4) (mono_Strs W)) rfl) ?_ ?_
      · intro hb1 g₄ s₅ k4 F4
        have hok : okS W (sgA sg j') = true := hb1
        have hjN' : j' < nx.length := by
          refine hn.last j hjN j' hmem ?_
          obtain ⟨x, hx, e⟩ := List.any_eq_true.mp hb1
          rw [← beq_iff_eq.mp e]; exact hW x hx
        refine x_set (n := usedRow sg W (f j) (usedL sg nx W f (ks.take i)) ((nxA nx j).take i') j' + f j) F4 hw3 hNs hjN' (by have := (hf j).mpr hjk; omega) ?_ (ev_L M1) (ev_LI MJ) rfl ?_
        · rw [Int.natCast_add]
          exact ev_add (ev_get hd hw3 (ev_L M1) (ev_LI MJ) ev_int rfl rfl rfl) (ev_itemW ((kg3.trans k4) _ _ hob) hdo hp hjk (ev_L M4) (ev_LI M0) (fun _ => rfl))
        · intro o5 g₅ s₆ k5 hw5 F5
          refine x_nil (x_nil ⟨g₅, _, _, _, k4.trans k5, ⟨M0, M1, M2, M3, M4, M5, o5, rfl, ?_⟩, F5⟩)
          rw [hstep]
          simp only [hok, if_true]
          exact hw5
      · intro hb1 g₄ s₅ k4 F4
        have hok : okS W (sgA sg j') = false := hb1
        refine x_nil (x_nil ⟨g₄, _, _, _, k4, ⟨M0, M1, M2, M3, M4, M5, o3, rfl, ?_⟩, F4⟩)
        rw [hstep]
        simp only [hok]
        exact hw3
    · rintro g₃ m₃ cm₃ own₃ s₄ kk3 (⟨q0, q1, q2, q3, q4, q5, o3, rfl, hw3⟩ | h) F3
      · refine x_nil ⟨g₃, _, _, _, kk3, ⟨q1, q2, q3, q4, q5, o3, rfl, ?_⟩, F3⟩
        rw [toZ_length, List.take_length] at hw3
        have : usedL sg nx W f (ks.take (i + 1)) = usedRow sg W (f j) (usedL sg nx W f (ks.take i)) (nxA nx j) := foldl_take _ _ _ _ _ hj
        rw [this]; exact hw3
      · exact h.elim
    · intro x; rfl
  · rintro g₂ m₂ cm₂ own₂ s₃ kk (⟨hm1, hm2, hm3, hm4, hm5, o', rfl, hw'⟩ | h) F2
    · refine x_ret F2 (ev_L hm1) ?_
      rintro v g₃ s₄ k3 rfl F3
      obtain ⟨h', tk, rfl⟩ := F3.same
      refine ⟨_, h', tk, rfl, rfl, (k1.trans (kk.trans k3)).trans F3.keep, ks, hnk, hb, hf, d, o', rfl, hd, minus_get (F3.ow _ List.mem_cons_self) ?_, ?_⟩
      · exact (k1.trans (kk.trans k3)).none (F3.hid _ (mem_hidden_own (p := (d, o')) List.mem_cons_self))
      · rw [hp.length, List.take_length] at hw'
        exact hw'
    · exact h.elim
  · intro x; rfl
end Mine

namespace Mine
open PySem PySem.Calls PyProof.Rows PySem.W

section
variable {prog : Program} {w : World} {A : Around} {kp own : List (Addr × Obj)} {env : Env} {m cm : Str → Option Value} {g : Heap}
theorem ev_strs1 {e : Expr} {pos : Pos} {a : Str} (h : Tr prog w A kp env m cm own g (eval e env) (pS a)) (hs : starEach [e] env = [(false, eval e env)] := by rfl) :
    Tr prog w A kp env m cm own g (eval (.List [e] pos) env) (pStrs [a]) := by
  refine ev_list (Ps := [pS a]) (args_cons (mono_S a) h args_nil (by rw [hs]; rfl)) ?_ ?_
  · rintro g' _ ⟨_, _, rfl, _, rfl⟩; exact (by decide : 1 ≤ sizeLine)
  · rintro g' _ ⟨_, _, rfl, ⟨t, rfl⟩, rfl⟩ g'' b _ e
    exact ⟨_, ⟨b, _, rfl, e, rfl, rfl, _, rfl⟩, .cons a t .nil⟩
theorem ev_strs2 {e e' : Expr} {pos : Pos} {a b : Str} (h : Tr prog w A kp env m cm own g (eval e env) (pS a)) (h' : Tr prog w A kp env m cm own g (eval e' env) (pS b))
    (hs : starEach [e, e'] env = [(false, eval e env), (false, eval e' env)] := by rfl) (hs1 : starEach [e'] env = [(false, eval e' env)] := by rfl) :
    Tr prog w A kp env m cm own g (eval (.List [e, e'] pos) env) (pStrs [a, b]) := by
  refine ev_list (Ps := [pS a, pS b]) (args_cons (mono_S a) h (args_cons (mono_S b) h' args_nil (by rw [hs1]; rfl)) (by rw [hs, hs1])) ?_ ?_
  · rintro g' _ ⟨_, _, rfl, _, _, _, rfl, _, rfl⟩; exact (by decide : 2 ≤ sizeLine)
  · rintro g' _ ⟨_, _, rfl, ⟨t, rfl⟩, _, _, rfl, ⟨u, rfl⟩, rfl⟩ g'' c _ e
    exact ⟨_, ⟨c, _, rfl, e, rfl, rfl, _, rfl⟩, .cons a t (.cons b u .nil)⟩
theorem ev_lenNx {mg mb : Str → Option Value} {p pos : Pos} {e : Expr} {nx : List (List Nat)} (G : Gd mg mb g) (he : Tr prog w A kp env m cm own g (eval e env) (pNx nx)) (hsz : nx.length < 2 ^ 62)
    (hs : starEach [e] env = [(false, eval e env)] := by rfl) (hg : env.globals = mainGlobals := by rfl) (hb : env.builtins = builtinsNs := by rfl)
    (hl : env.kindOf (Str.ofString "len") = some .globalImplicit := by rfl) (hk : env.scope.kind = .function := by rfl) :
    Tr prog w A kp env m cm own g (eval (.Call (.Name (Str.ofString "len") p) [e] [] pos) env) (pI (nx.length : Int)) := by
  have := ev_lenR (pos := pos) (p := p) G he (by simpa using hsz) hs hg hb hl hk
  rw [List.length_map] at this; exact this
end

def wS : List Str := [Str.ofString " ", Str.ofString "\t"]
theorem wS_len : ∀ x ∈ wS, x.length ≠ 0 := by decide
def bS : Str := Str.ofString "\\"
def whiteJ (sg : List Str) (nx : List (List Nat)) (esc : Bool) (v : Nat) (acc : Nat → Nat) (row : List Nat) : Nat → Nat :=
  row.foldl (fun acc j => if okS wS (sgA sg j) then bump acc j v else if esc && (sgA sg j == bS) then usedRow sg wS v acc (nxA nx j) else acc) acc
def whiteL (sg : List Str) (nx : List (List Nat)) (esc : Bool) (f : Nat → Nat) (n : Nat) : Nat → Nat := (List.range n).foldl (fun acc i => whiteJ sg nx esc (acc i) acc (nxA nx i)) f

theorem bump_zero (f : Nat → Nat) (j : Nat) : bump f j 0 = f := by
  funext x; unfold bump setF; split
  · rename_i h; rw [h]; rfl
  · rfl
theorem usedRow_zero (sg W : List Str) (acc : Nat → Nat) (row : List Nat) : usedRow sg W 0 acc row = acc := by
  unfold usedRow
  induction row generalizing acc with
  | nil => rfl
  | cons j r ih => rw [List.foldl_cons, bump_zero, ite_self, ih]
theorem whiteJ_zero (sg : List Str) (nx : List (List Nat)) (esc : Bool) (acc : Nat → Nat) (row : List Nat) : whiteJ sg nx esc 0 acc row = acc := by
  unfold whiteJ
  induction row generalizing acc with
  | nil => rfl
  | cons j r ih => rw [List.foldl_cons, bump_zero, usedRow_zero, ite_self, ite_self, ih]
theorem usedRow_off {sg W : List Str} {v i : Nat} {row : List Nat} (h : ∀ j ∈ row, i < j) (acc : Nat → Nat) : usedRow sg W v acc row i = acc i := by
  unfold usedRow
  induction row generalizing acc with
  | nil => rfl
  | cons j r ih =>
    rw [List.foldl_cons, ih fun k hk => h k (List.mem_cons_of_mem _ hk)]
    have := h j List.mem_cons_self
    split
    · simp [bump, setF, Nat.ne_of_lt this]
    · rfl
theorem whiteJ_off {sg : List Str} {nx : List (List Nat)} {esc : Bool} {v i : Nat} {row : List Nat} (h : ∀ j ∈ row, i < j) (h2 : ∀ j ∈ row, ∀ k ∈ nxA nx j, i < k) (acc : Nat → Nat) : whiteJ sg nx esc v acc row i = acc i := by
  unfold whiteJ
  induction row generalizing acc with
  | nil => rfl
  | cons j r ih =>
    rw [List.foldl_cons, ih (fun k hk => h k (List.mem_cons_of_mem _ hk)) fun k hk => h2 k (List.mem_cons_of_mem _ hk)]
    have := h j List.mem_cons_self
    split
    · simp [bump, setF, Nat.ne_of_lt this]
    · split
      · exact usedRow_off (h2 j List.mem_cons_self) acc
      · rfl
theorem nxA_off {nx : List (List Nat)} {i : Nat} (h : ¬ i < nx.length) : nxA nx i = [] := by
  simp [nxA, List.getElem?_eq_none (Nat.not_lt.mp h)]

theorem white_ok {prog : Program} {w : World} {A : Around} {s : Shared} {mg mb : Str → Option Value} {a : Addr} {pm code doc : Value} {v1 v2 v3 : Value} {sg : List Str} {nx : List (List Nat)} {f : Nat → Nat} {esc : Bool}
    (hA : Aok 1 A) (G : Gd mg mb s.heap) (fn : FnAt mg s.heap 9 a pm code doc) (hn : NxOk sg nx) (h1 : pStrs sg s.heap v1) (h2 : pNx nx s.heap v2) (h3 : pW prog w nx.length f s.heap v3) :
    CallOk prog w A a [v1, v2, v3, .bool esc] s (pW prog w nx.length (whiteL sg nx esc f nx.length)) := by
  have hNs : nx.length ≤ sizeLine := Nat.le_trans hn.small (by decide)
  refine call_enter fn (by have := hA.depth; omega) G.nolimit (binds := [(Str.ofString "signs", v1), (Str.ofString "nexts", v2), (Str.ofString "ways", v3), (Str.ofString "escaped", .bool esc)]) rfl rfl (by decide) rfl rfl rfl ?_
  intro s₁ F E'
  have hAd := (hA.deeper (k := 0) (envF 9 pm code doc s.heap.objs.size a)).hand
  refine x_new F (x := Str.ofString "new") (st_local rfl rfl) (ev_dictOf G hNs (ev_LP (v := v3) rfl h3 (mono_W _ _ _ _))) rfl ?_
  rintro d o g₁ s₂ ⟨hd, hw⟩ k1 F1
  refine x_for (J := fun i g' m' _ own' => m' (Str.ofString "new") = some (.ref d) ∧ m' (Str.ofString "signs") = some v1 ∧ m' (Str.ofString "nexts") = some v2 ∧ m' (Str.ofString "escaped") = some (.bool esc) ∧
      ∃ o', own' = [(d, o')] ∧ WFo prog w nx.length (whiteL sg nx esc f i) o') (JB := fun _ _ _ _ => False)
    F1 (n := nx.length) (P := fun i v => ∃ t, v = .int (0 + (i : Int)) t) (Pv := pRange 0 (nx.length : Int))
    (ev_range1 (G.keeps k1) (ev_lenNx (G.keeps k1) (ev_LP (v := v2) rfl (mono_Nx nx _ _ _ k1 h2) (mono_Nx nx)) (by have := hn.small; omega)))
    (fun g' v k h => itr_range hAd (by decide) (by decide) (by have := hn.small; omega) (by have := hn.small; omega) (by omega) h) (st_local rfl rfl) ?_ ?_ ?_ ?_
  · intro g' k
    exact ⟨rfl, rfl, rfl, rfl, o, rfl, hw⟩
  · rintro kp' i v g₂ m₂ cm₂ own₂ s₃ E'' hi kk ⟨t, rfl⟩ ⟨hm1, hm2, hm3, hm4, o', rfl, hw'⟩ F2
    have kg : Sub s.heap g₂ := k1.trans kk
    rw [Int.zero_add] at F2
    have hstepI : whiteL sg nx esc f (i + 1) = whiteJ sg nx esc (whiteL sg nx esc f i i) (whiteL sg nx esc f i) (nxA nx i) := by
      unfold whiteL; rw [List.range_succ, List.foldl_append]; rfl
    have MI : fmU (Str.ofString "i") m₂ (.int (i : Int) t) (Str.ofString "i") = some (.int (i : Int) t) := by simp [fmU, upd]
    have Mn : fmU (Str.ofString "i") m₂ (.int (i : Int) t) (Str.ofString "new") = some (.ref d) := by simp [fmU, upd, ofS_inj, hm1]
    have Ms : fmU (Str.ofString "i") m₂ (.int (i : Int) t) (Str.ofString "signs") = some v1 := by simp [fmU, upd, ofS_inj, hm2]
    have Mx : fmU (Str.ofString "i") m₂ (.int (i : Int) t) (Str.ofString "nexts") = some v2 := by simp [fmU, upd, ofS_inj, hm3]
    have Me : fmU (Str.ofString "i") m₂ (.int (i : Int) t) (Str.ofString "escaped") = some (.bool esc) := by simp [fmU, upd, ofS_inj, hm4]
    refine x_if F2 (te_in hd hw' (ev_LI MI) (ev_L Mn) rfl) ?_ ?_
    · intro hb1 g₃ s₄ k3 F3
      have hv0 : whiteL sg nx esc f i i ≠ 0 := of_decide_eq_true hb1
      have kg3 := kg.trans k3
      refine x_for (J := fun i' g' m' _ own' => m' (Str.ofString "i") = some (.int (i : Int) t) ∧ m' (Str.ofString "new") = some (.ref d) ∧ m' (Str.ofString "signs") = some v1 ∧ m' (Str.ofString "nexts") = some v2 ∧ m' (Str.ofString "escaped") = some (.bool esc) ∧
          ∃ o' fc, own' = [(d, o')] ∧ WFo prog w nx.length fc o' ∧ fc i = whiteL sg nx esc f i i ∧ fc = whiteJ sg nx esc (whiteL sg nx esc f i i) (whiteL sg nx esc f i) ((nxA nx i).take i')) (JB := fun _ _ _ _ => False)
        F3 (n := (toZ (nxA nx i)).length) (P := fun i' u => ∃ n t, (toZ (nxA nx i))[i']? = some n ∧ u = .int n t) (Pv := pInts (toZ (nxA nx i)))
        (ev_itemR (i := i) (ev_LP Mx (mono_Nx nx _ _ _ kg3 h2) (mono_Nx nx)) (ev_LI MI) (nx_at hi) (by have := hn.small; omega) (fun _ _ => rfl))
        (fun g' v k h => itr_ints hAd h) (st_local rfl rfl) ?_ ?_ ?_ ?_
      · intro g' k
        exact ⟨MI, Mn, Ms, Mx, Me, o', _, rfl, hw', rfl, rfl⟩
      · rintro kp3 i' v g₄ m₄ cm₄ own₄ s₅ E3 hi' kk4 ⟨z, t', hz, rfl⟩ ⟨q0, q1, q2, q3, q4, o4, fc, rfl, hw4, hfi, hfc⟩ F4
        obtain ⟨j, hj, rfl⟩ := toZ_at hz
        have hmem : j ∈ nxA nx i := List.mem_of_getElem? hj
        have kg4 : Sub s.heap g₄ := kg3.trans kk4
        have hjs := hn.lt i hi j hmem
        have hij := hn.gt i hi j hmem
        have M0 : fmU (Str.ofString "j") m₄ (.int (j : Int) t') (Str.ofString "i") = some (.int (i : Int) t) := by simp [fmU, upd, ofS_inj, q0]
        have M1 : fmU (Str.ofString "j") m₄ (.int (j : Int) t') (Str.ofString "new") = some (.ref d) := by simp [fmU, upd, ofS_inj, q1]
        have M2 : fmU (Str.ofString "j") m₄ (.int (j : Int) t') (Str.ofString "signs") = some v1 := by simp [fmU, upd, ofS_inj, q2]
        have M3 : fmU (Str.ofString "j") m₄ (.int (j : Int) t') (Str.ofString "nexts") = some v2 := by simp [fmU, upd, ofS_inj, q3]
        have M4 : fmU (Str.ofString "j") m₄ (.int (j : Int) t') (Str.ofString "escaped") = some (.bool esc) := by simp [fmU, upd, ofS_inj, q4]
        have MJ : fmU (Str.ofString "j") m₄ (.int (j : Int) t') (Str.ofString "j") = some (.int (j : Int) t') := by simp [fmU, upd]
        have hstep : whiteJ sg nx esc (whiteL sg nx esc f i i) (whiteL sg nx esc f i) ((nxA nx i).take (i' + 1)) =
            if okS wS (sgA sg j) then bump fc j (whiteL sg nx esc f i i) else if esc && (sgA sg j == bS) then usedRow sg wS (whiteL sg nx esc f i i) fc (nxA nx j) else fc := by
          rw [hfc]; exact foldl_take _ _ _ _ _ hj
        refine x_if F4 (te_inS (xs := wS) (ev_itemS (i := j) (ev_LP M2 (mono_Strs sg _ _ _ kg4 h1) (mono_Strs sg)) (ev_LI MJ) (sg_at hjs) (by have := hn.len; have := hn.small; omega) (fun _ _ => rfl)) (ev_strs2 ev_str ev_str) rfl) ?_ ?_
        · intro hb2 g₅ s₆ k5 F5
          have hok : okS wS (sgA sg j) = true := hb2
          have hjN : j < nx.length := by
            refine hn.last i hi j hmem ?_
            obtain ⟨x, hx, e⟩ := List.any_eq_true.mp hb2
            rw [← beq_iff_eq.mp e]; exact wS_len x hx
          refine x_set (n := fc j + fc i) F5 hw4 hNs hjN (by omega) ?_ (ev_L M1) (ev_LI MJ) rfl ?_
          · rw [Int.natCast_add]
            exact ev_add (ev_get hd hw4 (ev_L M1) (ev_LI MJ) ev_int rfl rfl rfl) (ev_itemO hw4 (by omega) (ev_L M1) (ev_LI M0) (fun _ => rfl))
          · intro o6 g₆ s₇ k6 hw6 F6
            refine x_nil (x_nil ⟨g₆, _, _, _, k5.trans k6, ⟨M0, M1, M2, M3, M4, o6, _, rfl, hw6, ?_, ?_⟩, F6⟩)
            · simp [setF, Nat.ne_of_lt hij, hfi]
            · rw [hstep, if_pos hok, hfi]; rfl
        · intro hb2 g₅ s₆ k5 F5
          have hok : okS wS (sgA sg j) = false := hb2
          have kg5 := kg4.trans k5
          refine x_if F5 (te_and (te_bool (ev_L M4) rfl) (fun _ => te_eqS (b := bS) (ev_itemS (i := j) (ev_LP M2 (mono_Strs sg _ _ _ kg5 h1) (mono_Strs sg)) (ev_LI MJ) (sg_at hjs) (by have := hn.len; have := hn.small; omega) (fun _ _ => rfl)) ev_str rfl)) ?_ ?_
          · intro hb3 g₆ s₇ k6 F6
            have kg6 := kg5.trans k6
            have hbs : sgA sg j = bS := by
              have := (Bool.and_eq_true_iff.mp hb3).2
              exact beq_iff_eq.mp this
            have hjN : j < nx.length := hn.last i hi j hmem (by rw [hbs]; decide)
            refine x_for (J := fun l g' m' _ own' => m' (Str.ofString "i") = some (.int (i : Int) t) ∧ m' (Str.ofString "new") = some (.ref d) ∧ m' (Str.ofString "signs") = some v1 ∧ m' (Str.ofString "nexts") = some v2 ∧ m' (Str.ofString "escaped") = some (.bool esc) ∧
                ∃ o' fk, own' = [(d, o')] ∧ WFo prog w nx.length fk o' ∧ fk i = whiteL sg nx esc f i i ∧ fk = usedRow sg wS (whiteL sg nx esc f i i) fc ((nxA nx j).take l)) (JB := fun _ _ _ _ => False)
              F6 (n := (toZ (nxA nx j)).length) (P := fun l u => ∃ n t, (toZ (nxA nx j))[l]? = some n ∧ u = .int n t) (Pv := pInts (toZ (nxA nx j)))
              (ev_itemR (i := j) (ev_LP M3 (mono_Nx nx _ _ _ kg6 h2) (mono_Nx nx)) (ev_LI MJ) (nx_at hjN) (by have := hn.small; omega) (fun _ _ => rfl))
              (fun g' v k h => itr_ints hAd h) (st_local rfl rfl) ?_ ?_ ?_ ?_
            · intro g' k
              exact ⟨M0, M1, M2, M3, M4, o4, fc, rfl, hw4, hfi, rfl⟩
            · rintro kp6 l v g₇ m₇ cm₇ own₇ s₈ E6 hl kk7 ⟨z, t7, hz, rfl⟩ ⟨p0, p1, p2, p3, p4, o7, fk, rfl, hw7, hki, hfk⟩ F7
              obtain ⟨k, hk, rfl⟩ := toZ_at hz
              have hmk : k ∈ nxA nx j := List.mem_of_getElem? hk
              have kg7 : Sub s.heap g₇ := kg6.trans kk7
              have hks := hn.lt j hjN k hmk
              have hjk := hn.gt j hjN k hmk
              have N0 : fmU (Str.ofString "k") m₇ (.int (k : Int) t7) (Str.ofString "i") = some (.int (i : Int) t) := by simp [fmU, upd, ofS_inj, p0]
              have N1 : fmU (Str.ofString "k") m₇ (.int (k : Int) t7) (Str.ofString "new") = some (.ref d) := by simp [fmU, upd, ofS_inj, p1]
              have N2 : fmU (Str.ofString "k") m₇ (.int (k : Int) t7) (Str.ofString "signs") = some v1 := by simp [fmU, upd, ofS_inj, p2]
              have N3 : fmU (Str.ofString "k") m₇ (.int (k : Int) t7) (Str.ofString "nexts") = some v2 := by simp [fmU, upd, ofS_inj, p3]
              have N4 : fmU (Str.ofString "k") m₇ (.int (k : Int) t7) (Str.ofString "escaped") = some (.bool esc) := by simp [fmU, upd, ofS_inj, p4]
              have NK : fmU (Str.ofString "k") m₇ (.int (k : Int) t7) (Str.ofString "k") = some (.int (k : Int) t7) := by simp [fmU, upd]
              have hstepK : usedRow sg wS (whiteL sg nx esc f i i) fc ((nxA nx j).take (l + 1)) = if okS wS (sgA sg k) then bump fk k (whiteL sg nx esc f i i) else fk := by
                rw [hfk]; exact foldl_take _ _ _ _ _ hk
              refine x_if F7 (te_inS (xs := wS) (ev_itemS (i := k) (ev_LP N2 (mono_Strs sg _ _ _ kg7 h1) (mono_Strs sg)) (ev_LI NK) (sg_at hks) (by have := hn.len; have := hn.small; omega) (fun _ _ => rfl)) (ev_strs2 ev_str ev_str) rfl) ?_ ?_
              · intro hb4 g₈ s₉ k8 F8
                have hok4 : okS wS (sgA sg k) = true := hb4
                have hkN : k < nx.length := by
                  refine hn.last j hjN k hmk ?_
                  obtain ⟨x, hx, e⟩ := List.any_eq_true.mp hb4
                  rw [← beq_iff_eq.mp e]; exact wS_len x hx
                refine x_set (n := fk k + fk i) F8 hw7 hNs hkN (by omega) ?_ (ev_L N1) (ev_LI NK) rfl ?_
                · rw [Int.natCast_add]
                  exact ev_add (ev_get hd hw7 (ev_L N1) (ev_LI NK) ev_int rfl rfl rfl) (ev_itemO hw7 (by omega) (ev_L N1) (ev_LI N0) (fun _ => rfl))
                · intro o9 g₉ s₁₀ k9 hw9 F9
                  refine x_nil (x_nil ⟨g₉, _, _, _, k8.trans k9, ⟨N0, N1, N2, N3, N4, o9, _, rfl, hw9, ?_, ?_⟩, F9⟩)
                  · have : i ≠ k := by omega
                    simp [setF, this, hki]
                  · rw [hstepK, if_pos hok4, hki]; rfl
              · intro hb4 g₈ s₉ k8 F8
                have hok4 : okS wS (sgA sg k) = false := hb4
                refine x_nil (x_nil ⟨g₈, _, _, _, k8, ⟨N0, N1, N2, N3, N4, o7, fk, rfl, hw7, hki, ?_⟩, F8⟩)
                rw [hstepK, hok4]; rfl
            · rintro g₇ m₇ cm₇ own₇ s₈ kk7 (⟨p0, p1, p2, p3, p4, o7, fk, rfl, hw7, hki, hfk⟩ | h) F7
              · refine x_nil (x_nil (x_nil ⟨g₇, _, _, _, k5.trans (k6.trans kk7), ⟨p0, p1, p2, p3, p4, o7, fk, rfl, hw7, hki, ?_⟩, F7⟩))
                rw [toZ_length, List.take_length] at hfk
                rw [hstep, hok, if_neg (by simp), if_pos hb3, hfk]
              · exact h.elim
            · intro x; rfl
          · intro hb3 g₆ s₇ k6 F6
            refine x_nil (x_nil (x_nil ⟨g₆, _, _, _, k5.trans k6, ⟨M0, M1, M2, M3, M4, o4, fc, rfl, hw4, hfi, ?_⟩, F6⟩))
            have hb3' : (esc && (sgA sg j == bS)) = false := hb3
            rw [hstep, hok, hb3']; rfl
      · rintro g₄ m₄ cm₄ own₄ s₅ kk4 (⟨q0, q1, q2, q3, q4, o4, fc, rfl, hw4, hfi, hfc⟩ | h) F4
        · refine x_nil (x_nil ⟨g₄, _, _, _, k3.trans kk4, ⟨q1, q2, q3, q4, o4, rfl, ?_⟩, F4⟩)
          rw [toZ_length, List.take_length] at hfc
          rw [hstepI, ← hfc]; exact hw4
        · exact h.elim
      · intro x; rfl
    · intro hb1 g₃ s₄ k3 F3
      have hv0 : whiteL sg nx esc f i i = 0 := by
        have := of_decide_eq_false hb1
        exact Decidable.not_not.mp this
      refine x_nil (x_nil ⟨g₃, _, _, _, k3, ⟨Mn, Ms, Mx, Me, o', rfl, ?_⟩, F3⟩)
      rw [hstepI, hv0, whiteJ_zero]; exact hw'
  · rintro g₂ m₂ cm₂ own₂ s₃ kk (⟨hm1, hm2, hm3, hm4, o', rfl, hw'⟩ | h) F2
    · refine x_ret F2 (ev_L hm1) ?_
      rintro v g₃ s₄ k3 rfl F3
      obtain ⟨h', tk, rfl⟩ := F3.same
      refine ⟨_, h', tk, rfl, rfl, (k1.trans (kk.trans k3)).trans F3.keep, d, o', rfl, hd, minus_get (F3.ow _ List.mem_cons_self) ?_, hw'⟩
      exact (k1.trans (kk.trans k3)).none (F3.hid _ (mem_hidden_own (p := (d, o')) List.mem_cons_self))
    · exact h.elim
  · intro x; rfl
end Mine

namespace Mine
open PySem PySem.Calls PyProof.Rows PySem.W

theorem preSum_getD (ns : List Int) : ∀ n, n ≤ ns.length → preSum (fun i => ns.getD i 0) n = (ns.take n).sum
  | 0, _ => by simp [preSum]
  | n + 1, h => by
    have hn : n < ns.length := h
    rw [preSum, preSum_getD ns n (Nat.le_of_lt hn), List.take_add_one, List.getElem?_eq_getElem hn, Option.toList_some, List.sum_append_int]
    simp [hn]

/-- the compose env's tests -/
abbrev compTest (ifs : List Expr) (env : Env) : Sem Bool := forIn ifs true fun c r => if r = true then do let ok ← isTrue c env (eval c env); pure (ForInStep.yield ok) else pure (ForInStep.yield r)

section
variable {prog : Program} {w : World} {A : Around} {kp own : List (Addr × Obj)} {env : Env} {m cm : Str → Option Value} {g : Heap}

theorem ev_sum {mg mb : Str → Option Value} {p pos : Pos} {e : Expr} {ns : List Int} (G : Gd mg mb g) (hh : A.handled = none) (he : Tr prog w A kp env m cm own g (eval e env) (pInts ns))
    (hs : starEach [e] env = [(false, eval e env)] := by rfl) (hg : env.globals = mainGlobals := by rfl) (hb : env.builtins = builtinsNs := by rfl)
    (hl : env.kindOf (Str.ofString "sum") = some .globalImplicit := by rfl) (hk : env.scope.kind = .function := by rfl) :
    Tr prog w A kp env m cm own g (eval (.Call (.Name (Str.ofString "sum") p) [e] [] pos) env) (pI ns.sum) := by
  refine ev_callB (R := AllP [pInts ns]) (ev_biG G (by simp) boot_sum hg hb hl hk) (args_cons (mono_Ints ns) he args_nil (by rw [hs]; rfl)) (by rw [hs]; rfl) (by rw [hs]; rfl) ?_
  rintro g₁ _ k ⟨_, _, rfl, hv, rfl⟩
  refine Tr.alloc (mono_I _) fun _ g₂ s Q E k3 F c => ?_
  refine call_sum_walkG ((itr_ints (A := A.in1) hh hv) s _ E (k3.trans F.keep) fun o St ax W h0 hex hax => ?_)
  refine ⟨_, _, _, _, _, _, (fun i => ns.getD i 0), rfl, W, h0, ?_, ?_, ?_⟩
  · intro b hb
    rcases List.mem_cons.mp hb with rfl | hb
    · rw [Heap.size_push]; exact Nat.lt_succ_self _
    · obtain ⟨o', ho'⟩ := hax b hb
      rw [Heap.size_push]
      exact Nat.lt_succ_of_lt (Heap.lt_size ((k3.trans F.keep) _ _ ho'))
  · rintro i v ⟨n, t, h1, rfl⟩
    exact ⟨t, by simp [h1]⟩
  · intro h' tk t' hk'
    refine c _ h' tk (fun b q e => hk' b q (fun hm => ?_) (Heap.get?_push_of_some _ e)) ⟨t', by rw [preSum_getD ns ns.length (Nat.le_refl _), List.take_length]⟩
    rw [List.mem_singleton.mp hm, get?_size] at e; cases e

theorem ev_comp {elt iter : Expr} {x : Str} {px : Pos} {ifs : List Expr} {scope : Scope} {cl : List (Str × Addr)} {pos : Pos} {n : Nat} {P : Nat → Value → Prop} {Pv R : Heap → Value → Prop} (p : Value → Bool) (Fv : Value → Value → Prop)
    (hclos : closureFor scope env = pure cl) (hcell : ∀ y ∈ scope.names, y.2 ≠ .cell) (hkind : scope.kind = .function)
    (hnames : ∀ y ∈ scope.names, y.2 = .local → scope.names.lookup y.1 = some .local) (hx : scope.names.lookup x = some .local)
    (hsub : ∀ nc ∈ cl, nc ∈ env.cells) (hnd : (cl.map (·.2)).Nodup)
    (hiter : Tr prog w A kp env m cm own g (eval iter env) Pv) (hI : ∀ g' v, Sub g g' → Pv g' v → Itr prog w A g' v n P) (hn : n ≤ sizeLine)
    (htest : ∀ C m₃ i v g', Sub g g' → P i v → m₃ x = some v → Tr prog w A [] (compEnvC scope cl C env) m₃ cm [] g' (compTest ifs (compEnvC scope cl C env)) (pT (p v)))
    (helt : ∀ C m₃ i v g', Sub g g' → P i v → p v = true → m₃ x = some v → Tr prog w A [] (compEnvC scope cl C env) m₃ cm [] g' (eval elt (compEnvC scope cl C env)) (fun _ y => Fv v y))
    (hR : ∀ g' a o (vs ys : List Value), Sub g g' → g'.get? a = some o → g.get? a = none → LObj o ys → vs.length = n → (∀ j v, vs[j]? = some v → P j v) → Paired Fv (vs.filter p) ys → R g' (.ref a))
    (hs : ∀ x, foldedSetIterable iter env x = pure x) :
    Tr prog w A kp env m cm own g (eval (.ListComp elt [⟨.Name x px, iter, ifs, 0⟩] scope pos) env) R := by
  intro s₀ g₁ s Q E k F c
  refine wpAny_ListComp_free p Fv hclos hcell hkind hnames hx (hiter s₀ g₁ s _ E k F fun v g' h' tk k1 k2 F' pv => ?_) hs
  refine hI g' v (k.trans k2) pv _ _ E F'.keep fun o St ax W h0 hex hax => ?_
  refine ⟨_, _, _, n, P, St, rfl, W, hn, h0, ?_, ?_, ?_⟩
  · intro b hb
    show b < (h'.push o).objs.size
    rw [Heap.size_push]
    rcases List.mem_cons.mp hb with rfl | hb
    · exact Nat.lt_succ_self _
    · obtain ⟨o', ho'⟩ := hax b hb
      exact Nat.lt_succ_of_lt (Heap.lt_size (F'.keep _ _ ho'))
  · have mk : ∀ C s₃ m₃, (h'.push o).objs.size ≤ C → s₃.heap.Ns C m₃ → (∀ b q, b ∉ [h'.objs.size] → (h'.push o).get? b = some q → s₃.heap.get? b = some q) → Fm s₃ g' [] (compEnvC scope cl C env) m₃ cm [] s₃ := by
      intro C s₃ m₃ hC hns hk
      have hk' : Sub h' s₃.heap := fun b q e => hk b q (fun hm => by rw [List.mem_singleton.mp hm, get?_size] at e; cases e) (Heap.get?_push_of_some _ e)
      have hcl : ∀ c ∈ cl.map (·.2), c ∈ hidden env kp own := fun c hc => by
        obtain ⟨nc, h1, rfl⟩ := List.mem_map.mp hc
        exact List.mem_cons_of_mem _ (List.mem_append_left _ (List.mem_map.mpr ⟨nc, hsub nc h1, rfl⟩))
      have hlt : ∀ c ∈ cl.map (·.2), c < h'.objs.size := fun c hc => by
        obtain ⟨q, e⟩ := F'.there c (hcl c hc)
        exact Heap.lt_size e
      rw [Heap.size_push] at hC
      refine ⟨⟨_, _, rfl⟩, F'.keep.trans hk', hns, ?_, fun _ h => (nomatch h), fun _ h => (nomatch h), ?_, ?_⟩
      · intro nm c hm
        exact (F'.cell nm c (hsub _ hm)).keeps hk'
      · intro b hb
        unfold hidden at hb
        simp only [List.map_nil, List.append_nil] at hb
        rcases List.mem_cons.mp hb with hbC | hb
        · have hbC' : b = C := hbC
          cases e : g'.get? b with
          | none => rfl
          | some q =>
            have h2 : b < h'.objs.size := Heap.lt_size (F'.keep _ _ e)
            rw [hbC'] at h2
            exact absurd (Nat.lt_of_lt_of_le h2 (Nat.le_of_succ_le hC)) (Nat.lt_irrefl _)
        · exact F'.hid b (hcl b hb)
      · unfold hidden
        simp only [List.map_nil, List.append_nil]
        refine List.nodup_cons.mpr ⟨fun hm => ?_, hnd⟩
        have h2 := hlt _ hm
        have h3 : C < h'.objs.size := h2
        exact absurd (Nat.lt_of_lt_of_le h3 (Nat.le_of_succ_le hC)) (Nat.lt_irrefl _)
    constructor
    · intro C i v s₃ m₃ E' hC hP hns hm₃ hk _
      exact htest C m₃ i v g' (k.trans k2) hP hm₃ s₃ g' s₃ _ E' (Sub.refl _) (mk C s₃ m₃ hC hns hk) fun b g'' h'' tk'' k3 _ _ pr => ⟨pr, h'', tk'', rfl, k3⟩
    · intro C i v s₃ m₃ E' hC hP hp hns hm₃ hk _
      exact helt C m₃ i v g' (k.trans k2) hP hp hm₃ s₃ g' s₃ _ E' (Sub.refl _) (mk C s₃ m₃ hC hns hk) fun b g'' h'' tk'' k3 _ _ pr => ⟨pr, h'', tk'', rfl, k3⟩
  · intro D h'' tk'' ys vs hD hl hpl hlen hP hpair hk
    have hk' : Sub h' h'' := fun b q e => hk b q (fun hm => by rw [List.mem_singleton.mp hm, get?_size] at e; cases e) (Heap.get?_push_of_some _ e)
    have hD' : h'.get? D = none := (Sub.push h' o).none hD
    obtain ⟨g'', F'', k3, hnew⟩ := F'.growN (tk := tk'') hk'
    obtain ⟨nn, hpl⟩ := hpl
    refine c (.ref D) g'' h'' tk'' (k1.trans hk') (k2.trans k3) F'' (hR g'' D _ vs ys.toList (k.trans (k2.trans k3)) (hnew D _ hD' hpl) ?_ ⟨rfl, rfl, nn, rfl⟩ hlen hP hpair)
    exact ((k.trans k2).trans F'.keep).none hD'
end
end Mine

namespace Mine
open PySem PySem.Calls PyProof.Rows PySem.W

/-! ## sums over the keys -/
theorem sum_filter_of_zero {F : Nat → Nat} {q : Nat → Bool} : ∀ {l : List Nat}, (∀ i ∈ l, q i = false → F i = 0) → (l.map F).sum = ((l.filter q).map F).sum
  | [], _ => rfl
  | i :: l, h => by
    have ih := sum_filter_of_zero fun j hj => h j (List.mem_cons_of_mem _ hj)
    rw [List.filter_cons]
    cases hq : q i with
    | true => simp [ih]
    | false => simp [h i List.mem_cons_self hq, ih]
theorem sum_keys {F : Nat → Nat} {ks : List Nat} {N : Nat} (hn : ks.Nodup) (hb : ∀ i ∈ ks, i < N) (hF : ∀ i, F i ≠ 0 → i ∈ ks) : (ks.map F).sum = ((List.range N).map F).sum := by
  rw [sum_filter_of_zero (l := List.range N) (q := fun i => decide (i ∈ ks)) (F := F) fun i _ hi => by
    have hi' := of_decide_eq_false hi
    cases e : F i with
    | zero => rfl
    | succ n => exact absurd (hF i (by omega)) hi']
  refine List.Perm.sum_nat (List.Perm.map F ((List.perm_ext_iff_of_nodup hn (List.nodup_range.filter _)).mpr fun i => ?_))
  simp only [List.mem_filter, List.mem_range, decide_eq_true_iff]
  exact ⟨fun h => ⟨hb i h, h⟩, fun h => h.2⟩

def nat_if (b : Bool) (n : Nat) : Nat := if b then n else 0
def endsF (nx : List (List Nat)) (f : Nat → Nat) : Nat := ((List.range nx.length).map fun i => if nx.length ∈ nxA nx i then f i else 0).sum
def usedF (sg : List Str) (nx : List (List Nat)) (W : List Str) (f : Nat → Nat) : Nat → Nat := fun j => if okS W (sgA sg j) then ((List.range nx.length).map fun i => if j ∈ nxA nx i then f i else 0).sum else 0

theorem usedRow_val {sg W : List Str} {v x : Nat} : ∀ {row : List Nat} (acc : Nat → Nat), row.Nodup → usedRow sg W v acc row x = acc x + if okS W (sgA sg x) && decide (x ∈ row) then v else 0
  | [], acc, _ => by simp [usedRow]
  | j :: r, acc, hn => by
    obtain ⟨h1, h2⟩ := List.nodup_cons.mp hn
    show usedRow sg W v (if okS W (sgA sg j) then bump acc j v else acc) r x = _
    rw [usedRow_val _ h2]
    by_cases hx : x = j
    · subst hx
      by_cases ho : okS W (sgA sg x) = true
      · simp [ho, h1, bump, setF]
      · simp [ho]
    · have : (if okS W (sgA sg j) then bump acc j v else acc) x = acc x := by split <;> simp [bump, setF, hx]
      rw [this]
      simp [hx]
theorem usedL_val {sg W : List Str} {nx : List (List Nat)} {f : Nat → Nat} {x : Nat} (hrow : ∀ i, (nxA nx i).Nodup) (ks : List Nat) :
    usedL sg nx W f ks x = if okS W (sgA sg x) then (ks.map fun i => if x ∈ nxA nx i then f i else 0).sum else 0 := by
  have gen : ∀ (ks : List Nat) (acc : Nat → Nat), (ks.foldl (fun acc i => usedRow sg W (f i) acc (nxA nx i)) acc) x = acc x + if okS W (sgA sg x) then (ks.map fun i => if x ∈ nxA nx i then f i else 0).sum else 0 := by
    intro ks
    induction ks with
    | nil => intro acc; simp
    | cons i r ih =>
      intro acc
      rw [List.foldl_cons, ih, usedRow_val _ (hrow i)]
      by_cases ho : okS W (sgA sg x) = true
      · simp only [ho, Bool.true_and, decide_eq_true_eq, if_true, List.map_cons, List.sum_cons]; omega
      · simp [ho]
  have := gen ks (fun _ => 0)
  simpa [usedL] using this
theorem usedL_eq {sg W : List Str} {nx : List (List Nat)} {f : Nat → Nat} {ks : List Nat} (hrow : ∀ i, (nxA nx i).Nodup) (hn : ks.Nodup) (hb : ∀ i ∈ ks, i < nx.length) (hf : ∀ i, f i ≠ 0 ↔ i ∈ ks) : usedL sg nx W f ks = usedF sg nx W f := by
  funext x
  rw [usedL_val hrow]
  unfold usedF
  split
  · refine sum_keys hn hb fun i hi => (hf i).mp fun h => hi ?_
    split
    · exact h
    · rfl
  · rfl

section
variable {prog : Program} {w : World} {A : Around} {kp own : List (Addr × Obj)} {env : Env} {m cm : Str → Option Value} {g : Heap}
theorem tr_tests1 {c : Expr} {b : Bool} (h : Tr prog w A kp env m cm own g (isTrue c env (eval c env)) (pT b)) : Tr prog w A kp env m cm own g (compTest [c] env) (pT b) :=
  fun s₀ g₁ s Q E k F cc => wpAny_tests_one (h s₀ g₁ s Q E k F cc)
theorem tr_tests0 : Tr prog w A kp env m cm own g (compTest [] env) (pT true) :=
  Tr.prim fun _ _ s Q E _ _ c => wpAny_tests_nil (c _ s.toks rfl)
end
theorem any_toZ (row : List Nat) (n : Nat) : ((toZ row).any (· == (n : Int))) = decide (n ∈ row) := by
  rw [Bool.eq_iff_iff, List.any_eq_true, decide_eq_true_iff]
  unfold toZ
  constructor
  · rintro ⟨x, hx, e⟩
    obtain ⟨j, hj, rfl⟩ := List.mem_map.mp hx
    have := beq_iff_eq.mp e
    have : j = n := by omega
    exact this ▸ hj
  · intro h
    exact ⟨(n : Int), List.mem_map.mpr ⟨n, h, rfl⟩, by simp⟩

def pEnd (nx : List (List Nat)) : Value → Bool
  | .int i _ => decide (nx.length ∈ nxA nx i.toNat)
  | _ => false
theorem ends_ints {f : Nat → Nat} {nx : List (List Nat)} : ∀ {vs : List Value} {ks : List Nat} {ys : List Value}, Paired (fun v (k : Nat) => ∃ t, v = Value.int (k : Int) t) vs ks →
    Paired (fun v y => ∃ (k : Nat) (t u : Tok), v = Value.int (k : Int) t ∧ y = Value.int (f k : Int) u) (vs.filter (pEnd nx)) ys → IntsAre ys ((ks.filter fun i => decide (nx.length ∈ nxA nx i)).map fun i => (f i : Int))
  | _, _, _, .nil, h => by
    cases h; exact .nil
  | _, _, ys, .cons (b := k) hv r, h => by
    obtain ⟨t, rfl⟩ := hv
    rw [List.filter_cons] at h ⊢
    have e : pEnd nx (Value.int (k : Int) t) = decide (nx.length ∈ nxA nx k) := by simp [pEnd]
    rw [e] at h
    cases hk : decide (nx.length ∈ nxA nx k) with
    | true =>
      rw [hk] at h
      simp only [if_true] at h ⊢
      cases h with
      | cons h1 h2 =>
        obtain ⟨k', t', u, e1, rfl⟩ := h1
        cases e1
        exact .cons _ u (ends_ints r h2)
    | false =>
      rw [hk] at h
      exact ends_ints r h

theorem paired_of_at {F : Value → Nat → Prop} : ∀ {vs : List Value} {ks : List Nat}, vs.length = ks.length → (∀ (i : Nat) (v : Value) (k : Nat), vs[i]? = some v → ks[i]? = some k → F v k) → Paired F vs ks
  | [], [], _, _ => .nil
  | v :: vs, k :: ks, hl, h => .cons (h 0 v k rfl rfl) (paired_of_at (by simpa using hl) fun i v k h1 h2 => h (i + 1) v k (by simpa using h1) (by simpa using h2))

theorem sum_cast (f : Nat → Nat) (q : Nat → Prop) [DecidablePred q] : ∀ ks : List Nat, ((ks.filter fun i => decide (q i)).map fun i => (f i : Int)).sum = ((ks.map fun i => if q i then f i else 0).sum : Nat)
  | [] => rfl
  | k :: r => by
    have ih := sum_cast f q r
    rw [List.filter_cons]
    by_cases hk : q k
    · simp [hk, ih]
    · simp [hk, ih]
theorem ends_ok {prog : Program} {w : World} {A : Around} {s : Shared} {mg mb : Str → Option Value} {a : Addr} {pm code doc : Value} {v1 v2 v3 : Value} {sg : List Str} {nx : List (List Nat)} {f : Nat → Nat}
    (hA : Aok 1 A) (G : Gd mg mb s.heap) (fn : FnAt mg s.heap 10 a pm code doc) (hn : NxOk sg nx) (h1 : pStrs sg s.heap v1) (h2 : pNx nx s.heap v2) (h3 : pW prog w nx.length f s.heap v3) :
    CallOk prog w A a [v1, v2, v3] s (pI (endsF nx f : Int)) := by
  have hNs : nx.length ≤ sizeLine := Nat.le_trans hn.small (by decide)
  refine call_enter fn (by have := hA.depth; omega) G.nolimit (binds := [(Str.ofString "signs", v1), (Str.ofString "nexts", v2), (Str.ofString "ways", v3)]) rfl rfl (by decide) rfl rfl rfl ?_
  intro s₁ F E'
  have hAd := (hA.deeper (k := 0) (envF 10 pm code doc s.heap.objs.size a)).hand
  have h3' := h3
  obtain ⟨b, ob, rfl, hbs, hob, es, ks, hdo, hp, hb, hf⟩ := h3
  have hnk := keys_nodup hdo hp
  have hsum : ((ks.filter fun i => decide (nx.length ∈ nxA nx i)).map fun i => (f i : Int)).sum = (endsF nx f : Int) := by
    have e1 : (ks.map fun i => if nx.length ∈ nxA nx i then f i else 0).sum = endsF nx f := sum_keys hnk hb fun i hi => (hf i).mp fun h => hi (by split; exact h; rfl)
    rw [← e1]; exact sum_cast _ _ _
  refine x_ret F (P := pI (endsF nx f : Int)) ?_ ?_
  · rw [← hsum]
    refine ev_sum G hAd ?_
    refine ev_comp (cl := [(Str.ofString "ways", s.heap.objs.size + 3), (Str.ofString "signs", s.heap.objs.size + 1), (Str.ofString "nexts", s.heap.objs.size + 2)]) (pEnd nx) (fun v y => ∃ (k : Nat) (t u : Tok), v = Value.int (k : Int) t ∧ y = Value.int (f k : Int) u)
      rfl (by decide) rfl (by decide) rfl ?_ ?_ (n := es.length) (P := fun i v => ∃ k x, es[i]? = some (k, x) ∧ (intKind prog w).is k v = true) (Pv := fun _ v => v = .ref b)
      ((ev_CP (v := .ref b) rfl rfl (mono_V _) rfl)) ?_ ?_ ?_ ?_ ?_ ?_
    · intro nc hnc
      rcases List.mem_cons.mp hnc with rfl | hnc
      · exact List.mem_cons_self
      rcases List.mem_cons.mp hnc with rfl | hnc
      · exact List.mem_cons_of_mem _ (List.mem_cons_of_mem _ List.mem_cons_self)
      rcases List.mem_cons.mp hnc with rfl | hnc
      · exact List.mem_cons_of_mem _ List.mem_cons_self
      · cases hnc
    · simp
    · rintro g' v k rfl
      exact itr_dict hAd hbs (dictOf_own (k _ _ hob) hdo)
    · have := hp.length
      have := length_le_of_nodup hnk hb
      omega
    · intro C m₃ i v g' k hP hm
      obtain ⟨j, t, hj, rfl⟩ := key_nat hp hP
      have hjk : j ∈ ks := List.mem_of_getElem? hj
      refine tr_tests1 ?_
      have e : pEnd nx (Value.int (j : Int) t) = (toZ (nxA nx j)).any (· == ((sg.length : Int) - 1)) := by
        have e2 : ((sg.length : Int) - 1) = ((nx.length : Nat) : Int) := by have := hn.len; omega
        rw [e2, any_toZ]; simp [pEnd]
      rw [e]
      refine te_inI (ev_sub (ev_lenS (G.keeps k) (ev_CP (v := v1) rfl (mono_Strs sg _ _ _ k h1) (mono_Strs sg) rfl) (by have := hn.len; have := hn.small; omega)) ev_int)
        (ev_itemR (i := j) (ev_CP (v := v2) rfl (mono_Nx nx _ _ _ k h2) (mono_Nx nx) rfl) (ev_LI (t := t) hm) (nx_at (hb j hjk)) (by have := hn.small; have := hb j hjk; omega) (fun _ _ => rfl)) rfl
    · intro C m₃ i v g' k hP _ hm
      obtain ⟨j, t, hj, rfl⟩ := key_nat hp hP
      have hjk : j ∈ ks := List.mem_of_getElem? hj
      refine (ev_itemW (i := j) (f := f) (k _ _ hob) hdo hp hjk ((ev_CP (v := .ref b) rfl rfl (mono_V _) rfl)) (ev_LI (t := t) hm) (fun _ => rfl)).post ?_
      rintro _ _ _ ⟨u, rfl⟩
      exact ⟨j, t, u, rfl, rfl⟩
    · intro g' D o vs ys k hD hDn lo hlen hP hpair
      refine ⟨ys, ⟨D, o, rfl, hD, lo⟩, ends_ints (paired_of_at (by rw [hlen]; exact hp.length) fun i v k hv hk => ?_) hpair⟩
      obtain ⟨j, t, hj, rfl⟩ := key_nat hp (hP i v hv)
      rw [hk] at hj; cases hj
      exact ⟨t, rfl⟩
    · intro x; rfl
  · rintro v g₃ s₄ k3 ⟨t, rfl⟩ F3
    obtain ⟨h', tk, rfl⟩ := F3.same
    exact ⟨_, h', tk, rfl, rfl, k3.trans F3.keep, t, rfl⟩
end Mine

namespace Mine
open PySem PySem.Calls PyProof.Rows PySem.W

section
variable {prog : Program} {w : World} {A : Around} {kp own : List (Addr × Obj)} {env : Env} {m cm : Str → Option Value} {g : Heap} {mg mb : Str → Option Value}

theorem ev_fn {i : Nat} {f : Str} {p pos : Pos} {e : Expr} {es : List Expr} {R : Heap → List Value → Prop} {P : Heap → Value → Prop} (G : Gd mg mb g) (hi : i ∈ [1, 3, 4, 5, 6, 7, 8, 9, 10, 11, 12, 13]) (hf : nmF (stm i) = f)
    (ha : Tr prog w A kp env m cm own g (spliced (backTo pos (starEach (e :: es) env))) R) (he : starEach (e :: es) env = (false, eval e env) :: starEach es env) (hm : Mono P)
    (hc : ∀ g₁ s vs a pm code doc, Gd mg mb s.heap → FnAt mg s.heap i a pm code doc → Sub g g₁ → Sub g₁ s.heap → R g₁ vs → CallOk prog w A a vs s P)
    (hl : env.kindOf f = some .globalImplicit := by rfl) (hg : env.globals = mainGlobals := by rfl) (hk : env.scope.kind = .function := by rfl) (hd : (f == ("__debug__" : Str)) = false := by rfl) :
    Tr prog w A kp env m cm own g (eval (.Call (.Name f p) (e :: es) [] pos) env) P := by
  obtain ⟨a, pm, code, doc, fn⟩ := G.fn i hi
  obtain ⟨o, ho, hdat⟩ := fn.ob
  have hnm := fn.nm
  rw [hf] at hnm
  exact ev_call (ev_glob (by rw [hg]; exact G.g) hnm hl hk hd) ho hdat ha he hm fun g₁ s vs k1 k2 r => hc g₁ s vs a pm code doc (G.keeps (k1.trans k2)) (fn.keeps (k1.trans k2)) k1 k2 r

theorem ev_used {sg W : List Str} {nx : List (List Nat)} {f : Nat → Nat} {e1 e2 e3 e4 : Expr} {p pos : Pos} (G : Gd mg mb g) (hA : Aok 1 A) (hn : NxOk sg nx) (hrow : ∀ i, (nxA nx i).Nodup) (hW : ∀ x ∈ W, x.length ≠ 0)
    (h1 : Tr prog w A kp env m cm own g (eval e1 env) (pStrs sg)) (h2 : Tr prog w A kp env m cm own g (eval e2 env) (pNx nx)) (h3 : Tr prog w A kp env m cm own g (eval e3 env) (pW prog w nx.length f)) (h4 : Tr prog w A kp env m cm own g (eval e4 env) (pStrs W))
    (hs1 : starEach [e1, e2, e3, e4] env = (false, eval e1 env) :: starEach [e2, e3, e4] env := by rfl) (hs2 : starEach [e2, e3, e4] env = (false, eval e2 env) :: starEach [e3, e4] env := by rfl) (hs3 : starEach [e3, e4] env = (false, eval e3 env) :: starEach [e4] env := by rfl)
    (hs4 : starEach [e4] env = (false, eval e4 env) :: starEach [] env := by rfl)
    (hl : env.kindOf (Str.ofString "_law_used") = some .globalImplicit := by rfl) (hg : env.globals = mainGlobals := by rfl) (hk : env.scope.kind = .function := by rfl) :
    Tr prog w A kp env m cm own g (eval (.Call (.Name (Str.ofString "_law_used") p) [e1, e2, e3, e4] [] pos) env) (pW prog w nx.length (usedF sg nx W f)) := by
  refine ev_fn (i := 7) (R := AllP [pStrs sg, pNx nx, pW prog w nx.length f, pStrs W]) G (by decide) rfl (args_cons (mono_Strs _) h1 (args_cons (mono_Nx _) h2 (args_cons (mono_W _ _ _ _) h3 (args_cons (mono_Strs _) h4 args_nil hs4) hs3) hs2) hs1) hs1 (mono_W _ _ _ _) ?_ hl hg hk
  rintro g₁ s _ a pm code doc G' fn k1 k2 ⟨u1, _, rfl, q1, u2, _, rfl, q2, u3, _, rfl, q3, u4, _, rfl, q4, rfl⟩
  intro Q E c
  refine used_ok hA G' fn hn hW (mono_Strs _ _ _ _ k2 q1) (mono_Nx _ _ _ _ k2 q2) (mono_W _ _ _ _ _ _ _ k2 q3) (mono_Strs _ _ _ _ k2 q4) Q E fun v h' tk k ⟨ks, hnd, hb, hf, hp⟩ => c v h' tk k ?_
  rw [usedL_eq hrow hnd hb hf] at hp
  exact hp
theorem ev_white {sg : List Str} {nx : List (List Nat)} {f : Nat → Nat} {esc : Bool} {e1 e2 e3 e4 : Expr} {p pos : Pos} (G : Gd mg mb g) (hA : Aok 1 A) (hn : NxOk sg nx)
    (h1 : Tr prog w A kp env m cm own g (eval e1 env) (pStrs sg)) (h2 : Tr prog w A kp env m cm own g (eval e2 env) (pNx nx)) (h3 : Tr prog w A kp env m cm own g (eval e3 env) (pW prog w nx.length f)) (h4 : Tr prog w A kp env m cm own g (eval e4 env) (pB esc))
    (hs1 : starEach [e1, e2, e3, e4] env = (false, eval e1 env) :: starEach [e2, e3, e4] env := by rfl) (hs2 : starEach [e2, e3, e4] env = (false, eval e2 env) :: starEach [e3, e4] env := by rfl) (hs3 : starEach [e3, e4] env = (false, eval e3 env) :: starEach [e4] env := by rfl)
    (hs4 : starEach [e4] env = (false, eval e4 env) :: starEach [] env := by rfl)
    (hl : env.kindOf (Str.ofString "_law_white") = some .globalImplicit := by rfl) (hg : env.globals = mainGlobals := by rfl) (hk : env.scope.kind = .function := by rfl) :
    Tr prog w A kp env m cm own g (eval (.Call (.Name (Str.ofString "_law_white") p) [e1, e2, e3, e4] [] pos) env) (pW prog w nx.length (whiteL sg nx esc f nx.length)) := by
  refine ev_fn (i := 9) (R := AllP [pStrs sg, pNx nx, pW prog w nx.length f, pB esc]) G (by decide) rfl (args_cons (mono_Strs _) h1 (args_cons (mono_Nx _) h2 (args_cons (mono_W _ _ _ _) h3 (args_cons (mono_B _) h4 args_nil hs4) hs3) hs2) hs1) hs1 (mono_W _ _ _ _) ?_ hl hg hk
  rintro g₁ s _ a pm code doc G' fn k1 k2 ⟨u1, _, rfl, q1, u2, _, rfl, q2, u3, _, rfl, q3, u4, _, rfl, rfl, rfl⟩
  exact white_ok hA G' fn hn (mono_Strs _ _ _ _ k2 q1) (mono_Nx _ _ _ _ k2 q2) (mono_W _ _ _ _ _ _ _ k2 q3)
theorem ev_both {N : Nat} {f f' : Nat → Nat} {e1 e2 : Expr} {p pos : Pos} (G : Gd mg mb g) (hA : Aok 1 A) (hN : N ≤ 2 ^ 20)
    (h1 : Tr prog w A kp env m cm own g (eval e1 env) (pW prog w N f)) (h2 : Tr prog w A kp env m cm own g (eval e2 env) (pW prog w N f'))
    (hs1 : starEach [e1, e2] env = (false, eval e1 env) :: starEach [e2] env := by rfl) (hs2 : starEach [e2] env = (false, eval e2 env) :: starEach [] env := by rfl)
    (hl : env.kindOf (Str.ofString "_law_both") = some .globalImplicit := by rfl) (hg : env.globals = mainGlobals := by rfl) (hk : env.scope.kind = .function := by rfl) :
    Tr prog w A kp env m cm own g (eval (.Call (.Name (Str.ofString "_law_both") p) [e1, e2] [] pos) env) (pW prog w N fun i => f i + f' i) := by
  refine ev_fn (i := 8) (R := AllP [pW prog w N f, pW prog w N f']) G (by decide) rfl (args_cons (mono_W _ _ _ _) h1 (args_cons (mono_W _ _ _ _) h2 args_nil hs2) hs1) hs1 (mono_W _ _ _ _) ?_ hl hg hk
  rintro g₁ s _ a pm code doc G' fn k1 k2 ⟨u1, _, rfl, q1, u2, _, rfl, q2, rfl⟩
  exact both_ok hA G' fn (mono_W _ _ _ _ _ _ _ k2 q1) (mono_W _ _ _ _ _ _ _ k2 q2) hN
theorem ev_ends {sg : List Str} {nx : List (List Nat)} {f : Nat → Nat} {e1 e2 e3 : Expr} {p pos : Pos} (G : Gd mg mb g) (hA : Aok 1 A) (hn : NxOk sg nx)
    (h1 : Tr prog w A kp env m cm own g (eval e1 env) (pStrs sg)) (h2 : Tr prog w A kp env m cm own g (eval e2 env) (pNx nx)) (h3 : Tr prog w A kp env m cm own g (eval e3 env) (pW prog w nx.length f))
    (hs1 : starEach [e1, e2, e3] env = (false, eval e1 env) :: starEach [e2, e3] env := by rfl) (hs2 : starEach [e2, e3] env = (false, eval e2 env) :: starEach [e3] env := by rfl) (hs3 : starEach [e3] env = (false, eval e3 env) :: starEach [] env := by rfl)
    (hl : env.kindOf (Str.ofString "_law_ends") = some .globalImplicit := by rfl) (hg : env.globals = mainGlobals := by rfl) (hk : env.scope.kind = .function := by rfl) :
    Tr prog w A kp env m cm own g (eval (.Call (.Name (Str.ofString "_law_ends") p) [e1, e2, e3] [] pos) env) (pI (endsF nx f : Int)) := by
  refine ev_fn (i := 10) (R := AllP [pStrs sg, pNx nx, pW prog w nx.length f]) G (by decide) rfl (args_cons (mono_Strs _) h1 (args_cons (mono_Nx _) h2 (args_cons (mono_W _ _ _ _) h3 args_nil hs3) hs2) hs1) hs1 (mono_I _) ?_ hl hg hk
  rintro g₁ s _ a pm code doc G' fn k1 k2 ⟨u1, _, rfl, q1, u2, _, rfl, q2, u3, _, rfl, q3, rfl⟩
  exact ends_ok hA G' fn hn (mono_Strs _ _ _ _ k2 q1) (mono_Nx _ _ _ _ k2 q2) (mono_W _ _ _ _ _ _ _ k2 q3)

def oneF : Nat → Nat := fun i => if i = 0 then 1 else 0
/-- {0: 1} -/
theorem ev_dict01 {k1 k2 : Nat} {pos p1 p2 : Pos} {N : Nat} (G : Gd mg mb g) (hN : 0 < N) :
    Tr prog w A kp env m cm own g (eval (.Dict [some (.Constant (.int 0) k1 p1)] [.Constant (.int 1) k2 p2] pos) env) (pW prog w N oneF) := by
  refine Tr.alloc (mono_W _ _ _ _) fun _ g₂ s Q E k3 F c => ?_
  have hgs : Sub g s.heap := k3.trans F.keep
  refine wpAny_Dict_pairs (knd := intKind prog w) (pairs := [(eval (.Constant (.int 0) k1 p1) env, do let x ← eval (.Constant (.int 1) k2 p2) env; standAt pos; pure x)]) rfl (by simp) (by simp) ?_
  refine evalPairs_cons (wpAny_Constant_int (wpAny_bind (wpAny_Constant_int (wpAny_bind (wpAny_standAt (wpAny_pure (evalPairs_nil ?_)))))))
  refine ⟨[((0 : Int), Value.int 1 (s.toks + 1))], ⟨intKind_is prog w 0 _, rfl, trivial⟩, Heap.DictOf.new s.heap, fun h' hd hs => ?_⟩
  obtain ⟨o', ho', hd'⟩ := Heap.dictOf_iff.mp hd
  have hsub : Sub s.heap h' := fun b q e => (hs.2 b fun e2 => by rw [e2, get?_size] at e; cases e).trans (Heap.get?_push_of_some _ e)
  refine c _ h' _ hsub ⟨_, o', rfl, big_heap G.g hgs, minus_get ho' (get?_size _), [((0 : Int), Value.int 1 (s.toks + 1))], [0], hd', .cons ⟨_, rfl⟩ .nil, fun i hi => by rw [List.mem_singleton.mp hi]; exact hN, fun i => ?_⟩
  unfold oneF
  by_cases h : i = 0 <;> simp [h]
theorem ev_dict0W {pos : Pos} {N : Nat} (G : Gd mg mb g) : Tr prog w A kp env m cm own g (eval (.Dict [] [] pos) env) (pW prog w N fun _ => 0) :=
  (ev_dict0 G).post fun _ _ _ ⟨a, o, e, h, _, hs, hw⟩ => ⟨a, o, e, hs, h, hw⟩
end
end Mine

namespace Mine
open PySem PySem.Calls PyProof.Rows PySem.W

/-! ## the writings, as plain functions -/
def qS : Str := Str.ofString "\""
def cS : Str := Str.ofString ","
def eS : Str := Str.ofString ""
def signStep (sg : List Str) (nx : List (List Nat)) (st : (Nat → Nat) × (Nat → Nat)) (c : Str) : (Nat → Nat) × (Nat → Nat) :=
  if c == qS then (usedF sg nx [c] st.2, fun i => usedF sg nx [c] st.1 i + usedF sg nx [c] (usedF sg nx [bS] st.2) i)
  else if c == bS then (usedF sg nx [c] st.1, usedF sg nx [c] (usedF sg nx [bS] st.2))
  else if c == cS then ((fun _ => 0), fun i => usedF sg nx [c] st.2 i + usedF sg nx [c] (usedF sg nx [bS] st.2) i)
  else (usedF sg nx [c] st.1, fun i => usedF sg nx [c] st.2 i + usedF sg nx [c] (usedF sg nx [bS] st.2) i)
def chS (x : Str) : List Str := x.cps.toList.map fun c => ⟨#[c]⟩
def whF (sg : List Str) (nx : List (List Nat)) (esc : Bool) (f : Nat → Nat) : Nat → Nat := whiteL sg nx esc f nx.length
def itemF (sg : List Str) (nx : List (List Nat)) (out : Nat → Nat) (cs : List Str) : (Nat → Nat) × (Nat → Nat) := cs.foldl (signStep sg nx) (whF sg nx false out, fun _ => 0)
def afterF (sg : List Str) (nx : List (List Nat)) (out : Nat → Nat) (x : Str) : Nat → Nat := if x != eS then whF sg nx false (itemF sg nx out (chS x)).1 else (itemF sg nx out (chS x)).1
def openF (sg : List Str) (nx : List (List Nat)) (q : Nat → Nat) : Nat → Nat := fun i => whF sg nx true q i + usedF sg nx [bS] (whF sg nx true q) i
def lastF (sg : List Str) (nx : List (List Nat)) (out : Nat → Nat) (x : Str) : Int :=
  if x == eS then (endsF nx (afterF sg nx out x) : Int) - (endsF nx out : Int) else (endsF nx (afterF sg nx out x) : Int) + (endsF nx (openF sg nx (itemF sg nx out (chS x)).2) : Int)
def itAt (items : List Str) (k : Nat) : Str := items.getD k eS
def turnF (sg : List Str) (nx : List (List Nat)) (items : List Str) (st : (Nat → Nat) × Int) (k : Nat) : (Nat → Nat) × Int :=
  (usedF sg nx [cS] (afterF sg nx st.1 (itAt items k)), if (k : Int) == (items.length : Int) - 1 then lastF sg nx st.1 (itAt items k) else st.2)
def foldW (sg : List Str) (nx : List (List Nat)) (items : List Str) (n : Nat) : (Nat → Nat) × Int := (List.range n).foldl (turnF sg nx items) (oneF, 0)
def writF (sg : List Str) (nx : List (List Nat)) (items : List Str) : Int := (foldW sg nx items items.length).2 + (endsF nx (foldW sg nx items items.length).1 : Int)

theorem x_ifJ {prog : Program} {w : World} {A : Around} {kp own : List (Addr × Obj)} {env : Env} {m cm : Str → Option Value} {g : Heap} {s₀ s : Shared} {Q : Flow → Shared → Prop} {E : Value → Shared → Prop}
    {test : Expr} {body orelse rest : List Stmt} {p : Pos} {b : Bool} (Jn : Heap → (Str → Option Value) → (Str → Option Value) → List (Addr × Obj) → Prop) (F : Fm s₀ g kp env m cm own s) (ht : Tr prog w A kp env m cm own g (isTrue test env (eval test env)) (pT b))
    (c1 : b = true → ∀ g' s' E', Sub g g' → Fm s₀ g' kp env m cm own s' → wpAny (model prog w) A (execs body env) (fun f s₂ => f = .next ∧ ∃ g₂ m₂ cm₂ own₂, Sub g g₂ ∧ Jn g₂ m₂ cm₂ own₂ ∧ Fm s₀ g₂ kp env m₂ cm₂ own₂ s₂) E' s')
    (c2 : b = false → ∀ g' s' E', Sub g g' → Fm s₀ g' kp env m cm own s' → wpAny (model prog w) A (execs orelse env) (fun f s₂ => f = .next ∧ ∃ g₂ m₂ cm₂ own₂, Sub g g₂ ∧ Jn g₂ m₂ cm₂ own₂ ∧ Fm s₀ g₂ kp env m₂ cm₂ own₂ s₂) E' s')
    (c : ∀ g₂ m₂ cm₂ own₂ s₂, Sub g g₂ → Jn g₂ m₂ cm₂ own₂ → Fm s₀ g₂ kp env m₂ cm₂ own₂ s₂ → wpAny (model prog w) A (execs rest env) Q E s₂) :
    wpAny (model prog w) A (execs (.If test body orelse p :: rest) env) Q E s := by
  refine x_if F ht (fun hb g' s' k F' => ?_) (fun hb g' s' k F' => ?_)
  · refine wpAny_mono (c1 hb g' s' E k F') (fun f s₂ h => ?_) fun _ _ e => e
    obtain ⟨rfl, g₂, m₂, cm₂, own₂, k2, j, F2⟩ := h
    exact c g₂ m₂ cm₂ own₂ s₂ k2 j F2
  · refine wpAny_mono (c2 hb g' s' E k F') (fun f s₂ h => ?_) fun _ _ e => e
    obtain ⟨rfl, g₂, m₂, cm₂, own₂, k2, j, F2⟩ := h
    exact c g₂ m₂ cm₂ own₂ s₂ k2 j F2

structure BaseW (m : Str → Option Value) (v1 v2 v3 vk vb vt : Value) : Prop where
  s : m (Str.ofString "signs") = some v1
  n : m (Str.ofString "nexts") = some v2
  i : m (Str.ofString "items") = some v3
  k : m (Str.ofString "k") = some vk
  b : m (Str.ofString "begun") = some vb
  t : m (Str.ofString "total") = some vt
theorem BaseW.up {m : Str → Option Value} {v1 v2 v3 vk vb vt v : Value} (h : BaseW m v1 v2 v3 vk vb vt) {x : String} (hx : x ∉ ["signs", "nexts", "items", "k", "begun", "total"]) : BaseW (fmU (Str.ofString x) m v) v1 v2 v3 vk vb vt := by
  simp only [List.mem_cons, List.not_mem_nil, or_false, not_or] at hx
  obtain ⟨h1, h2, h3, h4, h5, h6⟩ := hx
  have ne : ∀ y : String, ¬ x = y → ¬ y = x := fun y hy e => hy e.symm
  constructor
  · simp [fmU, Mine.upd, ofS_inj, ne _ h1, h.s]
  · simp [fmU, Mine.upd, ofS_inj, ne _ h2, h.n]
  · simp [fmU, Mine.upd, ofS_inj, ne _ h3, h.i]
  · simp [fmU, Mine.upd, ofS_inj, ne _ h4, h.k]
  · simp [fmU, Mine.upd, ofS_inj, ne _ h5, h.b]
  · simp [fmU, Mine.upd, ofS_inj, ne _ h6, h.t]

theorem signAt_ch {x : Str} {i : Nat} {v : Value} (h : SignAt x i v) : ∃ c u, (chS x)[i]? = some c ∧ v = .str c u ∧ c.length ≠ 0 := by
  obtain ⟨c, u, h1, rfl⟩ := h
  refine ⟨⟨#[c]⟩, u, ?_, rfl, Nat.one_ne_zero⟩
  unfold chS
  rw [List.getElem?_map, Array.getElem?_toList, h1]; rfl
theorem chS_length (x : Str) : (chS x).length = x.cps.size := by simp [chS]

set_option maxHeartbeats 4000000 in
theorem writings_ok {prog : Program} {w : World} {A : Around} {s : Shared} {mg mb : Str → Option Value} {a : Addr} {pm code doc : Value} {v1 v2 v3 : Value} {sg items : List Str} {nx : List (List Nat)}
    (hA : Aok 2 A) (G : Gd mg mb s.heap) (fn : FnAt mg s.heap 11 a pm code doc) (hn : NxOk sg nx) (hrow : ∀ i, (nxA nx i).Nodup) (hpos : 0 < nx.length) (hil : items.length ≤ 2 ^ 20)
    (h1 : pStrs sg s.heap v1) (h2 : pNx nx s.heap v2) (h3 : pStrs items s.heap v3) :
    CallOk prog w A a [v1, v2, v3] s (pI (writF sg nx items)) := by
  refine call_enter fn (by have := hA.depth; omega) G.nolimit (binds := [(Str.ofString "signs", v1), (Str.ofString "nexts", v2), (Str.ofString "items", v3)]) rfl rfl (by decide) rfl rfl rfl ?_
  intro s₁ F E'
  have hA1 : Aok 1 (A.deeper (envF 11 pm code doc s.heap.objs.size a)) := hA.deeper (k := 1) (envF 11 pm code doc s.heap.objs.size a)
  have hAd := hA1.hand
  refine x_assign F (x := Str.ofString "out") (st_local rfl rfl) (ev_dict01 G hpos) rfl ?_
  intro vo g₁ s₂ k1 po F1
  refine x_assign F1 (x := Str.ofString "total") (st_local rfl rfl) ev_int rfl ?_
  rintro _ g₂ s₃ k2 ⟨t0, rfl⟩ F2
  have kg2 : Sub s.heap g₂ := k1.trans k2
  refine x_for (J := fun i g' m' _ own' => own' = [] ∧ m' (Str.ofString "signs") = some v1 ∧ m' (Str.ofString "nexts") = some v2 ∧ m' (Str.ofString "items") = some v3 ∧
      (∃ vo, m' (Str.ofString "out") = some vo ∧ pW prog w nx.length (foldW sg nx items i).1 g' vo) ∧ ∃ t, m' (Str.ofString "total") = some (.int (foldW sg nx items i).2 t)) (JB := fun _ _ _ _ => False)
    F2 (n := items.length) (P := fun i v => ∃ t, v = .int (0 + (i : Int)) t) (Pv := pRange 0 (items.length : Int))
    (ev_range1 (G.keeps kg2) (ev_lenS (G.keeps kg2) (ev_LP (v := v3) (by simp [fmU, upd, ofS_inj]; rfl) (mono_Strs _ _ _ _ kg2 h3) (mono_Strs _)) (by omega)))
    (fun g' v k h => itr_range hAd (by decide) (by decide) (by omega) (by omega) (by omega) h) (st_local rfl rfl) ?_ ?_ ?_ ?_
  · intro g' k
    exact ⟨rfl, by simp [fmU, upd, ofS_inj]; rfl, by simp [fmU, upd, ofS_inj]; rfl, by simp [fmU, upd, ofS_inj]; rfl, ⟨vo, by simp [fmU, upd, ofS_inj], mono_W _ _ _ _ _ _ _ (k2.trans k) po⟩, t0, by simp [fmU, upd]; rfl⟩
  · rintro kp' i v g₃ m₃ cm₃ own₃ s₄ E3 hi kk3 ⟨tk, rfl⟩ ⟨rfl, hm1, hm2, hm3, ⟨vb, hmo, pb⟩, tt, hmt⟩ F3
    rw [Int.zero_add] at F3
    have kg3 : Sub s.heap g₃ := kg2.trans kk3
    have hstep : foldW sg nx items (i + 1) = turnF sg nx items (foldW sg nx items i) i := by unfold foldW; rw [List.range_succ, List.foldl_append]; rfl
    generalize hst : foldW sg nx items i = st at *
    obtain ⟨out, tot⟩ := st
    have hx : items[i]? = some (itAt items i) := by simp [itAt, hi]
    generalize hxx : itAt items i = x at *
    -- begun = out
    refine x_assign F3 (x := Str.ofString "begun") (st_local rfl rfl) (ev_L (v := vb) (by simp [fmU, upd, ofS_inj, hmo])) rfl ?_
    rintro vb g₄ s₅ k4 rfl F4
    have kg4 := kg3.trans k4
    have B4 : BaseW (fmU (Str.ofString "begun") (fmU (Str.ofString "k") m₃ (.int (i : Int) tk)) vb) v1 v2 v3 (.int (i : Int) tk) vb (.int tot tt) := by
      constructor <;> simp [fmU, upd, ofS_inj, hm1, hm2, hm3, hmt]
    generalize fmU (Str.ofString "begun") (fmU (Str.ofString "k") m₃ (.int (i : Int) tk)) vb = m₄ at *
    -- out = white(begun)
    refine x_assign F4 (x := Str.ofString "out") (st_local rfl rfl) (ev_white (G.keeps kg4) hA1 hn (ev_LP B4.s (mono_Strs _ _ _ _ kg4 h1) (mono_Strs _)) (ev_LP B4.n (mono_Nx _ _ _ _ kg4 h2) (mono_Nx _)) (ev_LP B4.b (mono_W _ _ _ _ _ _ _ k4 pb) (mono_W _ _ _ _)) ev_bool) rfl ?_
    intro vo5 g₅ s₆ k5 po5 F5
    have kg5 := kg4.trans k5
    have B5 := B4.up (v := vo5) (x := "out") (by decide)
    -- quoted = {}
    refine x_assign F5 (x := Str.ofString "quoted") (st_local rfl rfl) (ev_dict0W (N := nx.length) (G.keeps kg5)) rfl ?_
    intro vq6 g₆ s₇ k6 pq6 F6
    have kg6 := kg5.trans k6
    have B6 := B5.up (v := vq6) (x := "quoted") (by decide)
    have ho6 : fmU (Str.ofString "quoted") (fmU (Str.ofString "out") m₄ vo5) vq6 (Str.ofString "out") = some vo5 := by simp [fmU, upd, ofS_inj]
    have hq6 : fmU (Str.ofString "quoted") (fmU (Str.ofString "out") m₄ vo5) vq6 (Str.ofString "quoted") = some vq6 := by simp [fmU, upd]
    generalize fmU (Str.ofString "quoted") (fmU (Str.ofString "out") m₄ vo5) vq6 = m₆ at *
    -- the signs
    refine x_for (J := fun l g' m' _ own' => own' = [] ∧ BaseW m' v1 v2 v3 (.int (i : Int) tk) vb (.int tot tt) ∧ ∃ vo vq, m' (Str.ofString "out") = some vo ∧ m' (Str.ofString "quoted") = some vq ∧
        pW prog w nx.length (itemF sg nx out ((chS x).take l)).1 g' vo ∧ pW prog w nx.length (itemF sg nx out ((chS x).take l)).2 g' vq) (JB := fun _ _ _ _ => False)
      F6 (n := x.cps.size) (P := SignAt x) (Pv := pS x) (ev_itemS (i := i) (ev_LP B6.i (mono_Strs _ _ _ _ kg6 h3) (mono_Strs _)) (ev_LI B6.k) hx (by omega) (fun _ _ => rfl))
      (fun g' v k ⟨t, e⟩ => by rw [e]; exact itr_str hAd) (st_local rfl rfl) ?_ ?_ ?_ ?_
    · intro g' k
      exact ⟨rfl, B6, vo5, vq6, ho6, hq6, mono_W _ _ _ _ _ _ _ (k6.trans k) po5, mono_W _ _ _ _ _ _ _ k pq6⟩
    · rintro kp7 l v g₇ m₇ cm₇ own₇ s₈ E7 hl kk7 hP ⟨rfl, B7, vo, vq, hmo7, hmq7, po7, pq7⟩ F7
      obtain ⟨c, u, hc, rfl, hcl⟩ := signAt_ch hP
      have kg7 : Sub s.heap g₇ := kg6.trans kk7
      have hstepS : itemF sg nx out ((chS x).take (l + 1)) = signStep sg nx (itemF sg nx out ((chS x).take l)) c := foldl_take _ _ _ _ _ hc
      generalize itemF sg nx out ((chS x).take l) = st7 at *
      obtain ⟨fo, fq⟩ := st7
      have B7' := B7.up (v := .str c u) (x := "sign") (by decide)
      have o7 : fmU (Str.ofString "sign") m₇ (.str c u) (Str.ofString "out") = some vo := by simp [fmU, upd, ofS_inj, hmo7]
      have q7 : fmU (Str.ofString "sign") m₇ (.str c u) (Str.ofString "quoted") = some vq := by simp [fmU, upd, ofS_inj, hmq7]
      have c7 : fmU (Str.ofString "sign") m₇ (.str c u) (Str.ofString "sign") = some (.str c u) := by simp [fmU, upd]
      generalize fmU (Str.ofString "sign") m₇ (.str c u) = m₈ at *
      have hW1 : ∀ y ∈ [c], y.length ≠ 0 := fun y hy => by rw [List.mem_singleton.mp hy]; exact hcl
      have hW2 : ∀ y ∈ [bS], y.length ≠ 0 := by decide
      -- plain
      refine x_assign F7 (x := Str.ofString "plain") (st_local rfl rfl) (ev_used (W := [c]) (G.keeps kg7) hA1 hn hrow hW1 (ev_LP B7'.s (mono_Strs _ _ _ _ kg7 h1) (mono_Strs _)) (ev_LP B7'.n (mono_Nx _ _ _ _ kg7 h2) (mono_Nx _)) (ev_LP o7 po7 (mono_W _ _ _ _)) (ev_strs1 (ev_LS c7))) rfl ?_
      intro vp g₈ s₉ k8 pp F8
      have kg8 := kg7.trans k8
      have B8 := B7'.up (v := vp) (x := "plain") (by decide)
      have q8 : fmU (Str.ofString "plain") m₈ vp (Str.ofString "quoted") = some vq := by simp [fmU, upd, ofS_inj, q7]
      have c8 : fmU (Str.ofString "plain") m₈ vp (Str.ofString "sign") = some (.str c u) := by simp [fmU, upd, ofS_inj, c7]
      have p8 : fmU (Str.ofString "plain") m₈ vp (Str.ofString "plain") = some vp := by simp [fmU, upd]
      generalize fmU (Str.ofString "plain") m₈ vp = m₉ at *
      -- inner
      refine x_assign F8 (x := Str.ofString "inner") (st_local rfl rfl) (ev_used (W := [c]) (G.keeps kg8) hA1 hn hrow hW1 (ev_LP B8.s (mono_Strs _ _ _ _ kg8 h1) (mono_Strs _)) (ev_LP B8.n (mono_Nx _ _ _ _ kg8 h2) (mono_Nx _)) (ev_LP q8 (mono_W _ _ _ _ _ _ _ k8 pq7) (mono_W _ _ _ _)) (ev_strs1 (ev_LS c8))) rfl ?_
      intro vi g₉ s₁₀ k9 pi9 F9
      have kg9 := kg8.trans k9
      have B9 := B8.up (v := vi) (x := "inner") (by decide)
      have q9 : fmU (Str.ofString "inner") m₉ vi (Str.ofString "quoted") = some vq := by simp [fmU, upd, ofS_inj, q8]
      have c9 : fmU (Str.ofString "inner") m₉ vi (Str.ofString "sign") = some (.str c u) := by simp [fmU, upd, ofS_inj, c8]
      have p9 : fmU (Str.ofString "inner") m₉ vi (Str.ofString "plain") = some vp := by simp [fmU, upd, ofS_inj, p8]
      have i9 : fmU (Str.ofString "inner") m₉ vi (Str.ofString "inner") = some vi := by simp [fmU, upd]
      generalize fmU (Str.ofString "inner") m₉ vi = m₁₀ at *
      -- slash
      refine x_assign F9 (x := Str.ofString "slash") (st_local rfl rfl) (ev_used (W := [bS]) (G.keeps kg9) hA1 hn hrow hW2 (ev_LP B9.s (mono_Strs _ _ _ _ kg9 h1) (mono_Strs _)) (ev_LP B9.n (mono_Nx _ _ _ _ kg9 h2) (mono_Nx _)) (ev_LP q9 (mono_W _ _ _ _ _ _ _ (k8.trans k9) pq7) (mono_W _ _ _ _)) (ev_strs1 ev_str)) rfl ?_
      intro vs g₁₀ s₁₁ k10 ps F10
      have kg10 := kg9.trans k10
      have B10 := B9.up (v := vs) (x := "slash") (by decide)
      have c10 : fmU (Str.ofString "slash") m₁₀ vs (Str.ofString "sign") = some (.str c u) := by simp [fmU, upd, ofS_inj, c9]
      have p10 : fmU (Str.ofString "slash") m₁₀ vs (Str.ofString "plain") = some vp := by simp [fmU, upd, ofS_inj, p9]
      have i10 : fmU (Str.ofString "slash") m₁₀ vs (Str.ofString "inner") = some vi := by simp [fmU, upd, ofS_inj, i9]
      have s10 : fmU (Str.ofString "slash") m₁₀ vs (Str.ofString "slash") = some vs := by simp [fmU, upd]
      generalize fmU (Str.ofString "slash") m₁₀ vs = m₁₁ at *
      -- behind
      refine x_assign F10 (x := Str.ofString "behind") (st_local rfl rfl) (ev_used (W := [c]) (G.keeps kg10) hA1 hn hrow hW1 (ev_LP B10.s (mono_Strs _ _ _ _ kg10 h1) (mono_Strs _)) (ev_LP B10.n (mono_Nx _ _ _ _ kg10 h2) (mono_Nx _)) (ev_LP s10 ps (mono_W _ _ _ _)) (ev_strs1 (ev_LS c10))) rfl ?_
      intro vh g₁₁ s₁₂ k11 ph F11
      have kg11 := kg10.trans k11
      have B11 := B10.up (v := vh) (x := "behind") (by decide)
      have c11 : fmU (Str.ofString "behind") m₁₁ vh (Str.ofString "sign") = some (.str c u) := by simp [fmU, upd, ofS_inj, c10]
      have p11 : fmU (Str.ofString "behind") m₁₁ vh (Str.ofString "plain") = some vp := by simp [fmU, upd, ofS_inj, p10]
      have i11 : fmU (Str.ofString "behind") m₁₁ vh (Str.ofString "inner") = some vi := by simp [fmU, upd, ofS_inj, i10]
      have h11 : fmU (Str.ofString "behind") m₁₁ vh (Str.ofString "behind") = some vh := by simp [fmU, upd]
      generalize fmU (Str.ofString "behind") m₁₁ vh = m₁₂ at *
      have pp11 := mono_W _ _ _ _ _ _ _ (k9.trans (k10.trans k11)) pp
      have pi11 := mono_W _ _ _ _ _ _ _ (k10.trans k11) pi9
      have hNN : nx.length ≤ 2 ^ 20 := hn.small
      have kk11 : Sub g₇ g₁₁ := k8.trans (k9.trans (k10.trans k11))
      refine x_if F11 (te_eqS (b := qS) (ev_LS c11) ev_str rfl) ?_ ?_
      · intro hb1 g₁₂ s₁₃ k12 F12
        refine x_assign F12 (x := Str.ofString "out") (st_local rfl rfl) (ev_LP i11 (mono_W _ _ _ _ _ _ _ k12 pi11) (mono_W _ _ _ _)) rfl ?_
        intro vo' g₁₃ s₁₄ k13 po' F13
        refine x_assign F13 (x := Str.ofString "quoted") (st_local rfl rfl) (ev_both (G.keeps (kg11.trans (k12.trans k13))) hA1 hNN (ev_LP (v := vp) (by simp [fmU, upd, ofS_inj, p11]) (mono_W _ _ _ _ _ _ _ (k12.trans k13) pp11) (mono_W _ _ _ _)) (ev_LP (v := vh) (by simp [fmU, upd, ofS_inj, h11]) (mono_W _ _ _ _ _ _ _ (k12.trans k13) ph) (mono_W _ _ _ _))) rfl ?_
        intro vq' g₁₄ s₁₅ k14 pq' F14
        refine x_nil (x_nil ⟨g₁₄, _, _, _, kk11.trans (k12.trans (k13.trans k14)), ⟨rfl, (B11.up (x := "out") (by decide)).up (x := "quoted") (by decide), vo', vq', by simp [fmU, upd, ofS_inj], by simp [fmU, upd], ?_, ?_⟩, F14⟩)
        · rw [hstepS]; unfold signStep; rw [if_pos hb1]; exact mono_W _ _ _ _ _ _ _ k14 po'
        · rw [hstepS]; unfold signStep; rw [if_pos hb1]; exact pq'
      · intro hb1 g₁₂ s₁₃ k12 F12
        have hb1' : ¬ (c == qS) = true := by rw [hb1]; simp
        refine x_if F12 (te_eqS (b := bS) (ev_LS c11) ev_str rfl) ?_ ?_
        · intro hb2 g₁₃ s₁₄ k13 F13
          refine x_assign F13 (x := Str.ofString "out") (st_local rfl rfl) (ev_LP p11 (mono_W _ _ _ _ _ _ _ (k12.trans k13) pp11) (mono_W _ _ _ _)) rfl ?_
          intro vo' g₁₄ s₁₅ k14 po' F14
          refine x_assign F14 (x := Str.ofString "quoted") (st_local rfl rfl) (ev_LP (v := vh) (by simp [fmU, upd, ofS_inj, h11]) (mono_W _ _ _ _ _ _ _ (k12.trans (k13.trans k14)) ph) (mono_W _ _ _ _)) rfl ?_
          intro vq' g₁₅ s₁₆ k15 pq' F15
          refine x_nil (x_nil (x_nil ⟨g₁₅, _, _, _, kk11.trans (k12.trans (k13.trans (k14.trans k15))), ⟨rfl, (B11.up (x := "out") (by decide)).up (x := "quoted") (by decide), vo', vq', by simp [fmU, upd, ofS_inj], by simp [fmU, upd], ?_, ?_⟩, F15⟩))
          · rw [hstepS]; unfold signStep; rw [if_neg hb1', if_pos hb2]; exact mono_W _ _ _ _ _ _ _ k15 po'
          · rw [hstepS]; unfold signStep; rw [if_neg hb1', if_pos hb2]; exact pq'
        · intro hb2 g₁₃ s₁₄ k13 F13
          have hb2' : ¬ (c == bS) = true := by rw [hb2]; simp
          refine x_if F13 (te_eqS (b := cS) (ev_LS c11) ev_str rfl) ?_ ?_
          · intro hb3 g₁₄ s₁₅ k14 F14
            have k1214 := k12.trans (k13.trans k14)
            refine x_assign F14 (x := Str.ofString "out") (st_local rfl rfl) (ev_dict0W (N := nx.length) (G.keeps (kg11.trans k1214))) rfl ?_
            intro vo' g₁₅ s₁₆ k15 po' F15
            have k1215 := k1214.trans k15
            refine x_assign F15 (x := Str.ofString "quoted") (st_local rfl rfl) (ev_both (G.keeps (kg11.trans k1215)) hA1 hNN (ev_LP (v := vi) (by simp [fmU, upd, ofS_inj, i11]) (mono_W _ _ _ _ _ _ _ k1215 pi11) (mono_W _ _ _ _)) (ev_LP (v := vh) (by simp [fmU, upd, ofS_inj, h11]) (mono_W _ _ _ _ _ _ _ k1215 ph) (mono_W _ _ _ _))) rfl ?_
            intro vq' g₁₆ s₁₇ k16 pq' F16
            refine x_nil (x_nil (x_nil (x_nil ⟨g₁₆, _, _, _, kk11.trans (k1215.trans k16), ⟨rfl, (B11.up (x := "out") (by decide)).up (x := "quoted") (by decide), vo', vq', by simp [fmU, upd, ofS_inj], by simp [fmU, upd], ?_, ?_⟩, F16⟩)))
            · rw [hstepS]; unfold signStep; rw [if_neg hb1', if_neg hb2', if_pos hb3]; exact mono_W _ _ _ _ _ _ _ k16 po'
            · rw [hstepS]; unfold signStep; rw [if_neg hb1', if_neg hb2', if_pos hb3]; exact pq'
          · intro hb3 g₁₄ s₁₅ k14 F14
            have hb3' : ¬ (c == cS) = true := by rw [hb3]; simp
            have k1214 := k12.trans (k13.trans k14)
            refine x_assign F14 (x := Str.ofString "out") (st_local rfl rfl) (ev_LP p11 (mono_W _ _ _ _ _ _ _ k1214 pp11) (mono_W _ _ _ _)) rfl ?_
            intro vo' g₁₅ s₁₆ k15 po' F15
            have k1215 := k1214.trans k15
            refine x_assign F15 (x := Str.ofString "quoted") (st_local rfl rfl) (ev_both (G.keeps (kg11.trans k1215)) hA1 hNN (ev_LP (v := vi) (by simp [fmU, upd, ofS_inj, i11]) (mono_W _ _ _ _ _ _ _ k1215 pi11) (mono_W _ _ _ _)) (ev_LP (v := vh) (by simp [fmU, upd, ofS_inj, h11]) (mono_W _ _ _ _ _ _ _ k1215 ph) (mono_W _ _ _ _))) rfl ?_
            intro vq' g₁₆ s₁₇ k16 pq' F16
            refine x_nil (x_nil (x_nil (x_nil ⟨g₁₆, _, _, _, kk11.trans (k1215.trans k16), ⟨rfl, (B11.up (x := "out") (by decide)).up (x := "quoted") (by decide), vo', vq', by simp [fmU, upd, ofS_inj], by simp [fmU, upd], ?_, ?_⟩, F16⟩)))
            · rw [hstepS]; unfold signStep; rw [if_neg hb1', if_neg hb2', if_neg hb3']; exact mono_W _ _ _ _ _ _ _ k16 po'
            · rw [hstepS]; unfold signStep; rw [if_neg hb1', if_neg hb2', if_neg hb3']; exact pq'
    · rintro g₇ m₇ cm₇ own₇ s₈ kk7 (⟨rfl, B7, vo, vq, hmo7, hmq7, po7, pq7⟩ | h) F7
      · rw [← chS_length, List.take_length] at po7 pq7
        have kg7 : Sub s.heap g₇ := kg6.trans kk7
        have kb7 : Sub g₃ g₇ := k4.trans (k5.trans (k6.trans kk7))
        have pb7 := mono_W _ _ _ _ _ _ _ kb7 pb
        have hAft : afterF sg nx out x = if x != eS then whF sg nx false (itemF sg nx out (chS x)).1 else (itemF sg nx out (chS x)).1 := rfl
        refine x_ifJ (Jn := fun g' m' _ own' => own' = [] ∧ BaseW m' v1 v2 v3 (.int (i : Int) tk) vb (.int tot tt) ∧ m' (Str.ofString "quoted") = some vq ∧ ∃ vo, m' (Str.ofString "out") = some vo ∧ pW prog w nx.length (afterF sg nx out x) g' vo)
          F7 (te_neS (b := eS) (ev_itemS (i := i) (ev_LP B7.i (mono_Strs _ _ _ _ kg7 h3) (mono_Strs _)) (ev_LI B7.k) hx (by omega) (fun _ _ => rfl)) ev_str rfl) ?_ ?_ ?_
        · intro hb1 g₈ s₉ E8 k8 F8
          refine x_assign F8 (x := Str.ofString "out") (st_local rfl rfl) (ev_white (G.keeps (kg7.trans k8)) hA1 hn (ev_LP B7.s (mono_Strs _ _ _ _ (kg7.trans k8) h1) (mono_Strs _)) (ev_LP B7.n (mono_Nx _ _ _ _ (kg7.trans k8) h2) (mono_Nx _)) (ev_LP hmo7 (mono_W _ _ _ _ _ _ _ k8 po7) (mono_W _ _ _ _)) ev_bool) rfl ?_
          intro vo' g₉ s₁₀ k9 po' F9
          refine x_nil ⟨rfl, g₉, _, _, _, k8.trans k9, ⟨rfl, B7.up (x := "out") (by decide), by simp [fmU, upd, ofS_inj, hmq7], vo', by simp [fmU, upd], ?_⟩, F9⟩
          rw [hAft, if_pos hb1]; exact po'
        · intro hb1 g₈ s₉ E8 k8 F8
          refine x_nil ⟨rfl, g₈, _, _, _, k8, ⟨rfl, B7, hmq7, vo, hmo7, ?_⟩, F8⟩
          rw [hAft, if_neg (by rw [hb1]; simp)]; exact mono_W _ _ _ _ _ _ _ k8 po7
        rintro g₈ m₈ cm₈ own₈ s₉ k8 ⟨rfl, B8, hmq8, vo8, hmo8, po8⟩ F8
        have kg8 := kg7.trans k8
        have pb8 := mono_W _ _ _ _ _ _ _ k8 pb7
        have pq8 := mono_W _ _ _ _ _ _ _ k8 pq7
        refine x_ifJ (Jn := fun g' m' _ own' => own' = [] ∧ m' (Str.ofString "signs") = some v1 ∧ m' (Str.ofString "nexts") = some v2 ∧ m' (Str.ofString "items") = some v3 ∧ m' (Str.ofString "out") = some vo8 ∧
            ∃ t, m' (Str.ofString "total") = some (.int (if (i : Int) == (items.length : Int) - 1 then lastF sg nx out x else tot) t))
          F8 (te_eqI (ev_LI B8.k) (ev_sub (ev_lenS (G.keeps kg8) (ev_LP B8.i (mono_Strs _ _ _ _ kg8 h3) (mono_Strs _)) (by omega)) ev_int) rfl) ?_ ?_ ?_
        · intro hb1 g₉ s₁₀ E9 k9 F9
          have kg9 := kg8.trans k9
          refine x_assign F9 (x := Str.ofString "total") (st_local rfl rfl) (ev_ends (G.keeps kg9) hA1 hn (ev_LP B8.s (mono_Strs _ _ _ _ kg9 h1) (mono_Strs _)) (ev_LP B8.n (mono_Nx _ _ _ _ kg9 h2) (mono_Nx _)) (ev_LP hmo8 (mono_W _ _ _ _ _ _ _ k9 po8) (mono_W _ _ _ _))) rfl ?_
          rintro _ g₁₀ s₁₁ k10 ⟨t10, rfl⟩ F10
          have kg10 := kg9.trans k10
          have S10 : fmU (Str.ofString "total") m₈ (.int (endsF nx (afterF sg nx out x) : Int) t10) (Str.ofString "signs") = some v1 := by simp [fmU, upd, ofS_inj, B8.s]
          have N10 : fmU (Str.ofString "total") m₈ (.int (endsF nx (afterF sg nx out x) : Int) t10) (Str.ofString "nexts") = some v2 := by simp [fmU, upd, ofS_inj, B8.n]
          have I10 : fmU (Str.ofString "total") m₈ (.int (endsF nx (afterF sg nx out x) : Int) t10) (Str.ofString "items") = some v3 := by simp [fmU, upd, ofS_inj, B8.i]
          have K10 : fmU (Str.ofString "total") m₈ (.int (endsF nx (afterF sg nx out x) : Int) t10) (Str.ofString "k") = some (.int (i : Int) tk) := by simp [fmU, upd, ofS_inj, B8.k]
          have b10 : fmU (Str.ofString "total") m₈ (.int (endsF nx (afterF sg nx out x) : Int) t10) (Str.ofString "begun") = some vb := by simp [fmU, upd, ofS_inj, B8.b]
          have q10 : fmU (Str.ofString "total") m₈ (.int (endsF nx (afterF sg nx out x) : Int) t10) (Str.ofString "quoted") = some vq := by simp [fmU, upd, ofS_inj, hmq8]
          have o10 : fmU (Str.ofString "total") m₈ (.int (endsF nx (afterF sg nx out x) : Int) t10) (Str.ofString "out") = some vo8 := by simp [fmU, upd, ofS_inj, hmo8]
          have t10' : fmU (Str.ofString "total") m₈ (.int (endsF nx (afterF sg nx out x) : Int) t10) (Str.ofString "total") = some (.int (endsF nx (afterF sg nx out x) : Int) t10) := by simp [fmU, upd]
          generalize fmU (Str.ofString "total") m₈ (.int (endsF nx (afterF sg nx out x) : Int) t10) = m₁₀ at *
          refine x_if F10 (te_eqS (b := eS) (ev_itemS (i := i) (ev_LP I10 (mono_Strs _ _ _ _ kg10 h3) (mono_Strs _)) (ev_LI K10) hx (by omega) (fun _ _ => rfl)) ev_str rfl) ?_ ?_
          · intro hb2 g₁₁ s₁₂ k11 F11
            have kg11 := kg10.trans k11
            refine x_assign F11 (x := Str.ofString "total") (st_local rfl rfl) (ev_sub (ev_LI t10') (ev_ends (G.keeps kg11) hA1 hn (ev_LP S10 (mono_Strs _ _ _ _ kg11 h1) (mono_Strs _)) (ev_LP N10 (mono_Nx _ _ _ _ kg11 h2) (mono_Nx _)) (ev_LP b10 (mono_W _ _ _ _ _ _ _ (k9.trans (k10.trans k11)) pb8) (mono_W _ _ _ _)))) rfl ?_
            rintro _ g₁₂ s₁₃ k12 ⟨t12, rfl⟩ F12
            refine x_nil (x_nil ⟨rfl, g₁₂, _, _, _, k9.trans (k10.trans (k11.trans k12)), ⟨rfl, by simp [fmU, upd, ofS_inj, S10], by simp [fmU, upd, ofS_inj, N10], by simp [fmU, upd, ofS_inj, I10], by simp [fmU, upd, ofS_inj, o10], t12, ?_⟩, F12⟩)
            have e : lastF sg nx out x = (endsF nx (afterF sg nx out x) : Int) - (endsF nx out : Int) := by unfold lastF; rw [if_pos hb2]
            rw [if_pos hb1, e]; simp [fmU, upd]
          · intro hb2 g₁₁ s₁₂ k11 F11
            have kg11 := kg10.trans k11
            refine x_assign F11 (x := Str.ofString "quoted") (st_local rfl rfl) (ev_white (G.keeps kg11) hA1 hn (ev_LP S10 (mono_Strs _ _ _ _ kg11 h1) (mono_Strs _)) (ev_LP N10 (mono_Nx _ _ _ _ kg11 h2) (mono_Nx _)) (ev_LP q10 (mono_W _ _ _ _ _ _ _ (k9.trans (k10.trans k11)) pq8) (mono_W _ _ _ _)) ev_bool) rfl ?_
            intro vq' g₁₂ s₁₃ k12 pq' F12
            have kg12 := kg11.trans k12
            refine x_assign F12 (x := Str.ofString "lone") (st_local rfl rfl) (ev_used (W := [bS]) (G.keeps kg12) hA1 hn hrow (by decide) (ev_LP (v := v1) (by simp [fmU, upd, ofS_inj, S10]) (mono_Strs _ _ _ _ kg12 h1) (mono_Strs _)) (ev_LP (v := v2) (by simp [fmU, upd, ofS_inj, N10]) (mono_Nx _ _ _ _ kg12 h2) (mono_Nx _))
              (ev_LP (v := vq') (by simp [fmU, upd]) pq' (mono_W _ _ _ _)) (ev_strs1 ev_str)) rfl ?_
            intro vl g₁₃ s₁₄ k13 pl F13
            have kg13 := kg12.trans k13
            refine x_assign F13 (x := Str.ofString "total") (st_local rfl rfl) (ev_add (ev_LI (i := (endsF nx (afterF sg nx out x) : Int)) (t := t10) (by simp [fmU, upd, ofS_inj, t10'])) (ev_ends (f := openF sg nx (itemF sg nx out (chS x)).2) (G.keeps kg13) hA1 hn (ev_LP (v := v1) (by simp [fmU, upd, ofS_inj, S10]) (mono_Strs _ _ _ _ kg13 h1) (mono_Strs _)) (ev_LP (v := v2) (by simp [fmU, upd, ofS_inj, N10]) (mono_Nx _ _ _ _ kg13 h2) (mono_Nx _))
              (ev_both (G.keeps kg13) hA1 hn.small (ev_LP (v := vq') (by simp [fmU, upd, ofS_inj]) (mono_W _ _ _ _ _ _ _ k13 pq') (mono_W _ _ _ _)) (ev_LP (v := vl) (by simp [fmU, upd]) pl (mono_W _ _ _ _))))) rfl ?_
            rintro _ g₁₄ s₁₅ k14 ⟨t14, rfl⟩ F14
            refine x_nil (x_nil ⟨rfl, g₁₄, _, _, _, k9.trans (k10.trans (k11.trans (k12.trans (k13.trans k14)))), ⟨rfl, by simp [fmU, upd, ofS_inj, S10], by simp [fmU, upd, ofS_inj, N10], by simp [fmU, upd, ofS_inj, I10], by simp [fmU, upd, ofS_inj, o10], t14, ?_⟩, F14⟩)
            have e : lastF sg nx out x = (endsF nx (afterF sg nx out x) : Int) + (endsF nx (openF sg nx (itemF sg nx out (chS x)).2) : Int) := by unfold lastF; rw [if_neg (by rw [hb2]; simp)]
            rw [if_pos hb1, e]; simp [fmU, upd]
        · intro hb1 g₉ s₁₀ E9 k9 F9
          refine x_nil ⟨rfl, g₉, _, _, _, k9, ⟨rfl, B8.s, B8.n, B8.i, hmo8, tt, ?_⟩, F9⟩
          rw [if_neg (by rw [hb1]; simp)]; exact B8.t
        rintro g₉ m₉ cm₉ own₉ s₁₀ k9 ⟨rfl, S9, N9, I9, o9, t9, T9⟩ F9
        have kg9 := kg8.trans k9
        refine x_assign F9 (x := Str.ofString "out") (st_local rfl rfl) (ev_used (W := [cS]) (G.keeps kg9) hA1 hn hrow (by decide) (ev_LP S9 (mono_Strs _ _ _ _ kg9 h1) (mono_Strs _)) (ev_LP N9 (mono_Nx _ _ _ _ kg9 h2) (mono_Nx _)) (ev_LP o9 (mono_W _ _ _ _ _ _ _ k9 po8) (mono_W _ _ _ _)) (ev_strs1 ev_str)) rfl ?_
        intro vo' g₁₀ s₁₁ k10 po' F10
        refine x_nil ⟨g₁₀, _, _, _, kb7.trans (k8.trans (k9.trans k10)), ⟨rfl, by simp [fmU, upd, ofS_inj, S9], by simp [fmU, upd, ofS_inj, N9], by simp [fmU, upd, ofS_inj, I9], ⟨vo', by simp [fmU, upd], ?_⟩, t9, ?_⟩, F10⟩
        · rw [hstep]; unfold turnF; rw [hxx]; exact po'
        · rw [hstep]; unfold turnF; rw [hxx]; simp [fmU, upd, ofS_inj, T9]
      · exact h.elim
    · intro x; rfl
  · rintro g₃ m₃ cm₃ own₃ s₄ kk3 (⟨rfl, hm1, hm2, hm3, ⟨vo', hmo, po'⟩, t, hmt⟩ | h) F3
    · have kg3 := kg2.trans kk3
      refine x_ret F3 (P := pI (writF sg nx items)) ?_ ?_
      · exact ev_add (ev_LI hmt) (ev_ends (G.keeps kg3) hA1 hn (ev_LP hm1 (mono_Strs _ _ _ _ kg3 h1) (mono_Strs _)) (ev_LP hm2 (mono_Nx _ _ _ _ kg3 h2) (mono_Nx _)) (ev_LP hmo po' (mono_W _ _ _ _)))
      · rintro v g₄ s₅ k4 ⟨u, rfl⟩ F4
        obtain ⟨h', tk, rfl⟩ := F4.same
        exact ⟨_, h', tk, rfl, rfl, (kg3.trans k4).trans F4.keep, u, rfl⟩
    · exact h.elim
  · intro x; rfl
end Mine

namespace Mine
open PySem PySem.Calls PyProof.Rows PySem.W

structure PS where
  res : List Str
  part : Str
  esc : Bool
  quote : Bool
def pStep (st : PS) (c : Str) : PS :=
  if st.esc then { st with part := st.part ++ c, esc := false }
  else if st.quote then (if c == bS then { st with esc := true } else if c == qS then { st with quote := false, part := st.part ++ c } else { st with part := st.part ++ c })
  else if c == cS then { st with res := st.res ++ [st.part], part := eS }
  else if c == qS then { st with quote := true, part := st.part ++ c }
  else { st with part := st.part ++ c }
def ps0 : PS := ⟨[], eS, false, false⟩
def psOf (cs : List Str) : PS := cs.foldl pStep ps0
def partsOf (st : PS) : List Str := if st.part.length != 0 then st.res ++ [st.part] else st.res
def parseF (x : Str) : List Str := (partsOf (psOf (chS x))).map Txt.strip

theorem ps_len {cs : List Str} (h : ∀ c ∈ cs, c.length = 1) : (psOf cs).part.length ≤ cs.length ∧ (psOf cs).res.length ≤ cs.length ∧ ∀ r ∈ (psOf cs).res, r.length ≤ cs.length := by
  have gen : ∀ (cs : List Str), (∀ c ∈ cs, c.length = 1) → ∀ (st : PS) (n : Nat), st.part.length ≤ n → st.res.length ≤ n → (∀ r ∈ st.res, r.length ≤ n) →
      (cs.foldl pStep st).part.length ≤ n + cs.length ∧ (cs.foldl pStep st).res.length ≤ n + cs.length ∧ ∀ r ∈ (cs.foldl pStep st).res, r.length ≤ n + cs.length := by
    intro cs
    induction cs with
    | nil => intro _ st n h1 h2 h3; exact ⟨h1, h2, h3⟩
    | cons c r ih =>
      intro hc st n h1 h2 h3
      have hc1 := hc c List.mem_cons_self
      have key : (pStep st c).part.length ≤ n + 1 ∧ (pStep st c).res.length ≤ n + 1 ∧ ∀ r ∈ (pStep st c).res, r.length ≤ n + 1 := by
        have h3' : ∀ r ∈ st.res, r.length ≤ n + 1 := fun r hr => Nat.le_succ_of_le (h3 r hr)
        have hp : (st.part ++ c).length ≤ n + 1 := by rw [Str.length_append]; omega
        unfold pStep
        split
        · exact ⟨hp, by show st.res.length ≤ n + 1; omega, h3'⟩
        · split
          · split
            · exact ⟨by show st.part.length ≤ n + 1; omega, by show st.res.length ≤ n + 1; omega, h3'⟩
            · split
              · exact ⟨hp, by show st.res.length ≤ n + 1; omega, h3'⟩
              · exact ⟨hp, by show st.res.length ≤ n + 1; omega, h3'⟩
          · split
            · refine ⟨Nat.zero_le _, by show (st.res ++ [st.part]).length ≤ n + 1; simp; omega, fun r hr => ?_⟩
              rcases List.mem_append.mp hr with h | h
              · exact h3' r h
              · rw [List.mem_singleton.mp h]; omega
            · split
              · exact ⟨hp, by show st.res.length ≤ n + 1; omega, h3'⟩
              · exact ⟨hp, by show st.res.length ≤ n + 1; omega, h3'⟩
      have := ih (fun c hc' => hc c (List.mem_cons_of_mem _ hc')) (pStep st c) (n + 1) key.1 key.2.1 key.2.2
      rw [List.foldl_cons, List.length_cons]
      refine ⟨by omega, by omega, fun r hr => ?_⟩
      have := this.2.2 r hr
      omega
  have := gen cs h ps0 0 (Nat.le_refl _) (Nat.le_refl _) (fun _ h => nomatch h)
  simpa [psOf] using this
theorem chS_one (x : Str) : ∀ c ∈ chS x, c.length = 1 := by
  intro c hc
  obtain ⟨n, _, rfl⟩ := List.mem_map.mp hc
  rfl

theorem ev_strip {prog : Program} {w : World} {A : Around} {kp own : List (Addr × Obj)} {env : Env} {m cm : Str → Option Value} {g : Heap} {o : Expr} {y : Str} {apos pos : Pos} (hsz : y.length ≤ sizeLine) (h : Tr prog w A kp env m cm own g (eval o env) (pS y))
    (hbase : attributeBase o (Str.ofString "strip") env (eval o env) = eval o env) (hline : (apos.endLine == pos.line) = true) :
    Tr prog w A kp env m cm own g (eval (.Call (.Attribute o (Str.ofString "strip") apos) [] [] pos) env) (pS (Txt.strip y)) := by
  intro s₀ g₁ s Q E k F c
  refine Call_method0 hbase hline (h s₀ g₁ s _ E k F fun v g' h' tk k1 k2 F' p => ?_)
  obtain ⟨t, rfl⟩ := p
  exact SB.strip (fun t' tk' => c _ g' h' tk' k1 k2 (F'.tok tk') ⟨t', rfl⟩) hsz
theorem itr_strs {prog : Program} {w : World} {A : Around} {g : Heap} {v : Value} {xs : List Str} (hh : A.handled = none) (h : pStrs xs g v) : Itr prog w A g v xs.length (fun i u => ∃ x t, xs[i]? = some x ∧ u = .str x t) := by
  obtain ⟨vs, ⟨a, o, rfl, ho, lo⟩, hi⟩ := h
  rw [← hi.len_eq]
  exact (itr_list hh ho lo).imp fun i v h => by obtain ⟨y, t, e, h⟩ := hi.item i v h; exact ⟨y, t, h, e⟩
theorem strs_map {f : Str → Str} : ∀ {vs : List Value} {xs : List Str} {ys : List Value}, StrsAre vs xs → Paired (fun v y => ∃ x t u, v = Value.str x t ∧ y = Value.str (f x) u) vs ys → StrsAre ys (xs.map f)
  | _, _, _, .nil, h => by cases h; exact .nil
  | _, _, _, .cons x t r, h => by
    cases h with
    | cons h1 h2 =>
      obtain ⟨x', t', u, e1, rfl⟩ := h1
      cases e1
      exact .cons _ u (strs_map r h2)
theorem strs_of_at : ∀ {vs : List Value} {xs : List Str}, vs.length = xs.length → (∀ (i : Nat) (v : Value), vs[i]? = some v → ∃ x t, xs[i]? = some x ∧ v = .str x t) → StrsAre vs xs
  | [], [], _, _ => .nil
  | v :: vs, x :: xs, hl, h => by
    obtain ⟨x', t, e, rfl⟩ := h 0 v rfl
    cases e
    exact .cons _ t (strs_of_at (by simpa using hl) fun i v hv => by
      obtain ⟨x', t', e', hv'⟩ := h (i + 1) v (by simpa using hv)
      exact ⟨x', t', by simpa using e', hv'⟩)

structure BaseP (m : Str → Option Value) (d : Addr) (part : Str) (esc quote : Bool) : Prop where
  r : m (Str.ofString "res") = some (.ref d)
  p : ∃ t, m (Str.ofString "part") = some (.str part t)
  e : m (Str.ofString "escape") = some (.bool esc)
  q : m (Str.ofString "quote") = some (.bool quote)

set_option maxHeartbeats 4000000 in
theorem parse_ok {prog : Program} {w : World} {A : Around} {s : Shared} {mg mb : Str → Option Value} {a : Addr} {pm code doc : Value} {x : Str} {t : Tok}
    (hA : Aok 1 A) (G : Gd mg mb s.heap) (fn : FnAt mg s.heap 1 a pm code doc) (hx : x.length ≤ 2 ^ 20) : CallOk prog w A a [.str x t] s (pStrs (parseF x)) := by
  refine call_enter fn (by have := hA.depth; omega) G.nolimit (binds := [(Str.ofString "s", .str x t)]) rfl rfl (by decide) rfl rfl rfl ?_
  intro s₁ F E'
  have hAd := (hA.deeper (k := 0) (envF 1 pm code doc s.heap.objs.size a)).hand
  have hS : (2 : Nat) ^ 20 + 2 ^ 20 ≤ sizeLine := by decide
  refine x_new F (x := Str.ofString "res") (Shape := fun _ o => LObj o []) (st_local rfl rfl) (Tr.alloc (mono_new _ _) fun _ g₂ s' Q E k3 F' c => wpAny_List (wpAny_items_nil ⟨by decide, c _ _ _ (Sub.push _ _) ⟨_, _, rfl, minus_get (Heap.get?_push_size _ rfl) (get?_size _), fresh_size (k3.trans F'.keep), rfl, rfl, _, rfl⟩⟩)) rfl ?_
  rintro d o g₁ s₂ lo k1 F1
  refine x_assign F1 (x := Str.ofString "part") (st_local rfl rfl) (ev_str (x := eS)) rfl ?_
  rintro _ g₂ s₃ k2 ⟨t2, rfl⟩ F2
  refine x_assign2 F2 (x := Str.ofString "escape") (y := Str.ofString "quote") (st_local rfl rfl) (st_local rfl rfl) (ev_bool (b := false)) rfl rfl rfl ?_
  rintro _ g₃ s₄ k3 rfl F3
  have kg3 : Sub s.heap g₃ := k1.trans (k2.trans k3)
  refine x_for (J := fun i g' m' _ own' => BaseP m' d (psOf ((chS x).take i)).part (psOf ((chS x).take i)).esc (psOf ((chS x).take i)).quote ∧ ∃ o' vs, own' = [(d, o')] ∧ LObj o' vs ∧ StrsAre vs (psOf ((chS x).take i)).res) (JB := fun _ _ _ _ => False)
    F3 (n := x.cps.size) (P := SignAt x) (Pv := pS x) (ev_LS (t := t) (by simp [fmU, upd, ofS_inj]; rfl)) (fun g' v k ⟨t, e⟩ => by rw [e]; exact itr_str hAd) (st_local rfl rfl) ?_ ?_ ?_ ?_
  · intro g' k
    exact ⟨⟨by simp [fmU, upd, ofS_inj], ⟨t2, by simp [fmU, upd, ofS_inj]; rfl⟩, by simp [fmU, upd, ofS_inj]; rfl, by simp [fmU, upd]; rfl⟩, o, [], rfl, lo, .nil⟩
  · rintro kp' i v g₄ m₄ cm₄ own₄ s₅ E4 hi kk4 hP ⟨⟨hr, ⟨tp, hp⟩, he, hq⟩, o', vs, rfl, lo', hvs⟩ F4
    obtain ⟨c, u, hc, rfl, hcl⟩ := signAt_ch hP
    have hc1 : c.length = 1 := chS_one x c (List.mem_of_getElem? hc)
    have hstep : psOf ((chS x).take (i + 1)) = pStep (psOf ((chS x).take i)) c := foldl_take _ _ _ _ _ hc
    have hlen := ps_len (cs := (chS x).take i) fun c hc => chS_one x c (List.mem_of_mem_take hc)
    have hil : ((chS x).take i).length ≤ 2 ^ 20 := by rw [List.length_take, chS_length]; exact Nat.le_trans (Nat.min_le_right _ _) hx
    generalize psOf ((chS x).take i) = st at *
    obtain ⟨res, part, esc, quote⟩ := st
    simp only at hr hp he hq hvs hlen
    have hr' : fmU (Str.ofString "cur") m₄ (.str c u) (Str.ofString "res") = some (.ref d) := by simp [fmU, upd, ofS_inj, hr]
    have hp' : fmU (Str.ofString "cur") m₄ (.str c u) (Str.ofString "part") = some (.str part tp) := by simp [fmU, upd, ofS_inj, hp]
    have he' : fmU (Str.ofString "cur") m₄ (.str c u) (Str.ofString "escape") = some (.bool esc) := by simp [fmU, upd, ofS_inj, he]
    have hq' : fmU (Str.ofString "cur") m₄ (.str c u) (Str.ofString "quote") = some (.bool quote) := by simp [fmU, upd, ofS_inj, hq]
    have hc' : fmU (Str.ofString "cur") m₄ (.str c u) (Str.ofString "cur") = some (.str c u) := by simp [fmU, upd]
    generalize fmU (Str.ofString "cur") m₄ (.str c u) = m₅ at *
    have hsz : part.length + c.length ≤ sizeLine := by omega
    refine x_if F4 (te_bool (ev_L he') rfl) ?_ ?_
    · intro hb g₅ s₆ k5 F5
      subst hb
      refine x_augS F5 (x := Str.ofString "part") (st_local rfl rfl) hp' rfl rfl (ev_LS hc') hsz ?_
      intro t6 g₆ s₇ k6 F6
      refine x_assign F6 (x := Str.ofString "escape") (st_local rfl rfl) (ev_bool (b := false)) rfl ?_
      rintro _ g₇ s₈ k7 rfl F7
      refine x_cont ⟨g₇, _, _, _, k5.trans (k6.trans k7), ?_, F7⟩
      rw [hstep]
      exact ⟨⟨by simp [fmU, upd, ofS_inj, hr'], ⟨t6, by simp [fmU, upd, ofS_inj, pStep]⟩, by simp [fmU, upd, pStep], by simp [fmU, upd, ofS_inj, hq', pStep]⟩, o', vs, rfl, lo', by simpa [pStep] using hvs⟩
    · intro hb g₅ s₆ k5 F5
      subst hb
      refine x_nil ?_
      show wpAny _ _ (execs _ _) _ _ _
      refine x_if F5 (te_bool (ev_L hq') rfl) ?_ ?_
      · intro hb g₆ s₇ k6 F6
        subst hb
        refine x_if F6 (te_eqS (b := bS) (ev_LS hc') ev_str rfl) ?_ ?_
        · intro hb1 g₇ s₈ k7 F7
          refine x_assign F7 (x := Str.ofString "escape") (st_local rfl rfl) (ev_bool (b := true)) rfl ?_
          rintro _ g₈ s₉ k8 rfl F8
          refine x_cont ⟨g₈, _, _, _, k5.trans (k6.trans (k7.trans k8)), ?_, F8⟩
          rw [hstep]
          have e : pStep ⟨res, part, false, true⟩ c = ⟨res, part, true, true⟩ := by simp [pStep, hb1]
          rw [e]
          exact ⟨⟨by simp [fmU, upd, ofS_inj, hr'], ⟨tp, by simp [fmU, upd, ofS_inj, hp']⟩, by simp [fmU, upd], by simp [fmU, upd, ofS_inj, hq']⟩, o', vs, rfl, lo', hvs⟩
        · intro hb1 g₇ s₈ k7 F7
          refine x_ifJ (Jn := fun g' m' _ own' => own' = [(d, o')] ∧ m' (Str.ofString "res") = some (.ref d) ∧ m' (Str.ofString "part") = some (.str part tp) ∧ m' (Str.ofString "escape") = some (.bool false) ∧ m' (Str.ofString "quote") = some (.bool (!(c == qS))) ∧ m' (Str.ofString "cur") = some (.str c u))
            F7 (te_eqS (b := qS) (ev_LS hc') ev_str rfl) ?_ ?_ ?_
          · intro hb2 g₈ s₉ E8 k8 F8
            refine x_assign F8 (x := Str.ofString "quote") (st_local rfl rfl) (ev_bool (b := false)) rfl ?_
            rintro _ g₉ s₁₀ k9 rfl F9
            exact x_nil ⟨rfl, g₉, _, _, _, k8.trans k9, ⟨rfl, by simp [fmU, upd, ofS_inj, hr'], by simp [fmU, upd, ofS_inj, hp'], by simp [fmU, upd, ofS_inj, he'], by simp [fmU, upd, hb2], by simp [fmU, upd, ofS_inj, hc']⟩, F9⟩
          · intro hb2 g₈ s₉ E8 k8 F8
            exact x_nil ⟨rfl, g₈, _, _, _, k8, ⟨rfl, hr', hp', he', by rw [hb2]; exact hq', hc'⟩, F8⟩
          rintro g₈ m₈ cm₈ own₈ s₉ k8 ⟨rfl, r8, p8, e8, q8, c8⟩ F8
          refine x_nil ?_
          show wpAny _ _ (execs _ _) _ _ _
          refine x_augS F8 (x := Str.ofString "part") (st_local rfl rfl) p8 rfl rfl (ev_LS c8) hsz ?_
          intro t9 g₉ s₁₀ k9 F9
          refine x_cont ⟨g₉, _, _, _, k5.trans (k6.trans (k7.trans (k8.trans k9))), ?_, F9⟩
          rw [hstep]
          have e : pStep ⟨res, part, false, true⟩ c = ⟨res, part ++ c, false, !(c == qS)⟩ := by
            cases hqq : (c == qS) <;> simp [pStep, hb1, hqq]
          rw [e]
          exact ⟨⟨by simp [fmU, upd, ofS_inj, r8], ⟨t9, by simp [fmU, upd]⟩, by simp [fmU, upd, ofS_inj, e8], by simp [fmU, upd, ofS_inj, q8]⟩, o', vs, rfl, lo', hvs⟩
      · intro hb g₆ s₇ k6 F6
        subst hb
        refine x_nil ?_
        show wpAny _ _ (execs _ _) _ _ _
        refine x_if F6 (te_eqS (b := cS) (ev_LS hc') ev_str rfl) ?_ ?_
        · intro hb1 g₇ s₈ k7 F7
          refine x_append F7 (ev_L hr') lo' (by have := hvs.len_eq; omega) (ev_LS (y := part) hp') rfl rfl rfl rfl rfl rfl ?_
          rintro _ o8 g₈ s₉ k8 ⟨t8, rfl⟩ lo8 F8
          refine x_assign F8 (x := Str.ofString "part") (st_local rfl rfl) (ev_str (x := eS)) rfl ?_
          rintro _ g₉ s₁₀ k9 ⟨t9, rfl⟩ F9
          refine x_cont ⟨g₉, _, _, _, k5.trans (k6.trans (k7.trans (k8.trans k9))), ?_, F9⟩
          rw [hstep]
          have e : pStep ⟨res, part, false, false⟩ c = ⟨res ++ [part], eS, false, false⟩ := by simp [pStep, hb1]
          rw [e]
          exact ⟨⟨by simp [fmU, upd, ofS_inj, hr'], ⟨t9, by simp [fmU, upd]⟩, by simp [fmU, upd, ofS_inj, he'], by simp [fmU, upd, ofS_inj, hq']⟩, o8, _, rfl, lo8, hvs.append' (.cons _ t8 .nil)⟩
        · intro hb1 g₇ s₈ k7 F7
          refine x_nil ?_
          show wpAny _ _ (execs _ _) _ _ _
          refine x_ifJ (Jn := fun g' m' _ own' => own' = [(d, o')] ∧ m' (Str.ofString "res") = some (.ref d) ∧ m' (Str.ofString "part") = some (.str part tp) ∧ m' (Str.ofString "escape") = some (.bool false) ∧ m' (Str.ofString "quote") = some (.bool (c == qS)) ∧ m' (Str.ofString "cur") = some (.str c u))
            F7 (te_eqS (b := qS) (ev_LS hc') ev_str rfl) ?_ ?_ ?_
          · intro hb2 g₈ s₉ E8 k8 F8
            refine x_assign F8 (x := Str.ofString "quote") (st_local rfl rfl) (ev_bool (b := true)) rfl ?_
            rintro _ g₉ s₁₀ k9 rfl F9
            exact x_nil ⟨rfl, g₉, _, _, _, k8.trans k9, ⟨rfl, by simp [fmU, upd, ofS_inj, hr'], by simp [fmU, upd, ofS_inj, hp'], by simp [fmU, upd, ofS_inj, he'], by simp [fmU, upd, hb2], by simp [fmU, upd, ofS_inj, hc']⟩, F9⟩
          · intro hb2 g₈ s₉ E8 k8 F8
            exact x_nil ⟨rfl, g₈, _, _, _, k8, ⟨rfl, hr', hp', he', by rw [hb2]; exact hq', hc'⟩, F8⟩
          rintro g₈ m₈ cm₈ own₈ s₉ k8 ⟨rfl, r8, p8, e8, q8, c8⟩ F8
          refine x_augS F8 (x := Str.ofString "part") (st_local rfl rfl) p8 rfl rfl (ev_LS c8) hsz ?_
          intro t9 g₉ s₁₀ k9 F9
          refine x_nil ⟨g₉, _, _, _, k5.trans (k6.trans (k7.trans (k8.trans k9))), ?_, F9⟩
          rw [hstep]
          have e : pStep ⟨res, part, false, false⟩ c = ⟨res, part ++ c, false, c == qS⟩ := by
            cases hqq : (c == qS) <;> simp [pStep, hb1, hqq]
          rw [e]
          exact ⟨⟨by simp [fmU, upd, ofS_inj, r8], ⟨t9, by simp [fmU, upd]⟩, by simp [fmU, upd, ofS_inj, e8], by simp [fmU, upd, ofS_inj, q8]⟩, o', vs, rfl, lo', hvs⟩
  · rintro g₄ m₄ cm₄ own₄ s₅ kk4 (⟨⟨hr, ⟨tp, hp⟩, he, hq⟩, o', vs, rfl, lo', hvs⟩ | h) F4
    · rw [← chS_length, List.take_length] at hp hvs
      have hlen := ps_len (chS_one x)
      rw [chS_length] at hlen
      have hx' : x.cps.size ≤ 2 ^ 20 := hx
      refine x_ifJ (Jn := fun g' m' _ own' => m' (Str.ofString "res") = some (.ref d) ∧ ∃ o' vs, own' = [(d, o')] ∧ LObj o' vs ∧ StrsAre vs (partsOf (psOf (chS x)))) F4
        (te_str (ev_LS hp) (by omega) rfl) ?_ ?_ ?_
      · intro hb g₅ s₆ E5 k5 F5
        refine x_append F5 (ev_L hr) lo' (by have := hvs.len_eq; omega) (ev_LS hp) rfl rfl rfl rfl rfl rfl ?_
        rintro _ o8 g₈ s₉ k8 ⟨t8, rfl⟩ lo8 F8
        refine x_nil ⟨rfl, g₈, _, _, _, k5.trans k8, ⟨hr, o8, _, rfl, lo8, ?_⟩, F8⟩
        unfold partsOf; rw [if_pos hb]
        exact hvs.append' (.cons _ t8 .nil)
      · intro hb g₅ s₆ E5 k5 F5
        refine x_nil ⟨rfl, g₅, _, _, _, k5, ⟨hr, o', vs, rfl, lo', ?_⟩, F5⟩
        unfold partsOf; rw [if_neg (by rw [hb]; simp)]; exact hvs
      rintro g₅ m₅ cm₅ own₅ s₆ k5 ⟨hr5, o5, vs5, rfl, lo5, hvs5⟩ F5
      obtain ⟨g₆, F6, k6, hd6⟩ := F5.freeze
      have kg6 : Sub s.heap g₆ := kg3.trans (kk4.trans (k5.trans k6))
      have hdn : s.heap.get? d = none := (kg3.trans (kk4.trans k5)).none (F5.hid _ (mem_hidden_own (p := (d, o5)) List.mem_cons_self))
      have hpl : ∀ r ∈ partsOf (psOf (chS x)), r.length ≤ 2 ^ 20 := by
        intro r hr
        unfold partsOf at hr
        split at hr
        · rcases List.mem_append.mp hr with h | h
          · have := hlen.2.2 r h; omega
          · rw [List.mem_singleton.mp h]; omega
        · have := hlen.2.2 r hr; omega
      have hpn : (partsOf (psOf (chS x))).length ≤ 2 ^ 20 + 1 := by
        unfold partsOf; split <;> simp <;> omega
      refine x_ret F6 (P := fun g' v => ∃ b ob ys, v = .ref b ∧ g'.get? b = some ob ∧ g₆.get? b = none ∧ LObj ob ys ∧ StrsAre ys (parseF x)) ?_ ?_
      · refine ev_comp (cl := []) (fun _ => true) (fun v y => ∃ x t u, v = Value.str x t ∧ y = Value.str (Txt.strip x) u) rfl (by decide) rfl (by decide) rfl (fun _ h => (nomatch h)) (by simp)
          (n := (partsOf (psOf (chS x))).length) (P := fun i u => ∃ y t, (partsOf (psOf (chS x)))[i]? = some y ∧ u = .str y t) (Pv := pStrs (partsOf (psOf (chS x))))
          (ev_LP hr5 ⟨vs5, ⟨d, o5, rfl, hd6, lo5⟩, hvs5⟩ (mono_Strs _)) (fun g' v k h => itr_strs hAd h) (by omega) ?_ ?_ ?_ ?_
        · intro C m₃ i v g' k hP hm
          exact tr_tests0
        · rintro C m₃ i v g' k ⟨y, ty, hy, rfl⟩ _ hm
          refine (ev_strip (y := y) (by have := hpl y (List.mem_of_getElem? hy); omega) (ev_LS (t := ty) hm) rfl rfl).post ?_
          rintro _ _ _ ⟨u, rfl⟩
          exact ⟨y, ty, u, rfl, rfl⟩
        · intro g' D oD us ys k hD hDn lo hlen' hP hpair
          refine ⟨D, oD, ys, rfl, hD, hDn, lo, ?_⟩
          rw [List.filter_eq_self.mpr (fun _ _ => rfl)] at hpair
          exact strs_map (strs_of_at hlen' hP) hpair
        · intro x; rfl
      · rintro v g₇ s₇ k7 ⟨b, ob, ys, rfl, hb, hbn, lo7, hys⟩ F7
        obtain ⟨h', tk, rfl⟩ := F7.same
        exact ⟨_, h', tk, rfl, rfl, (kg6.trans k7).trans F7.keep, ys, ⟨b, ob, rfl, minus_get (F7.keep _ _ hb) (kg6.none hbn), lo7⟩, hys⟩
    · exact h.elim
  · intro x; rfl
end Mine

namespace Mine
open PySem PySem.Calls PyProof.Rows PySem.W

theorem slice_take (items : Array Value) (b : Nat) : slicePick items none (some (b : Int)) none = (items.toList.take b).toArray := by
  by_cases h : b ≤ items.size
  · exact slicePick_upto items b h
  · have e1 : (items.toList.take b) = items.toList := List.take_of_length_le (by simp; omega)
    rw [e1]
    have e2 : sliceBounds none (some (b : Int)) none items.size = sliceBounds none none none items.size := by
      unfold sliceBounds
      have : ¬ ((b : Int) < 0) := by omega
      simp only [Option.getD_none]
      simp [this]
      omega
    have := slicePick_all items
    unfold slicePick at this ⊢
    rw [e2, this]

section
variable {prog : Program} {w : World} {A : Around} {kp own : List (Addr × Obj)} {env : Env} {m cm : Str → Option Value} {g : Heap}

/-- the call's script -/
def pScr (ns : List Int) : Heap → Value → Prop := fun g v => ∃ a vs, v = .ref a ∧ g.IsList a vs.toArray ∧ IntsAre vs ns
theorem mono_Scr (ns : List Int) : Mono (pScr ns) := fun _ _ _ k ⟨a, vs, e, h, r⟩ => ⟨a, vs, e, let ⟨o, ho, q⟩ := h; ⟨o, k _ _ ho, q⟩, r⟩
theorem ev_upto {value e : Expr} {p pos : Pos} {ns : List Int} {b : Nat} (h1 : Tr prog w A kp env m cm own g (eval value env) (pScr ns)) (h2 : Tr prog w A kp env m cm own g (eval e env) (pI (b : Int))) (hsz : ns.length ≤ sizeLine)
    (ht : ∀ o r, letTemporaryGo value o r = pure ()) : Tr prog w A kp env m cm own g (eval (.Subscript value (.Slice none (some e) none p) pos) env) (pInts (ns.take b)) := by
  intro s₀ g₁ s Q E k F c
  refine wpAny_Subscript_list_slice (h1 s₀ g₁ s _ E k F fun v g' h' tk k1 k2 F' pv => ?_) ht
  obtain ⟨a, vs, rfl, hl, hi⟩ := pv
  show wpAny _ _ (pure Value.none : Sem Value) _ _ _
  refine wpAny_pure ?_
  show wpAny _ _ (eval e env) _ _ _
  refine (h2.lift (k.trans k2)) s₀ g' _ _ E (Sub.refl _) F' fun v2 g'' h'' tk' k3 k4 F'' p2 => ?_
  obtain ⟨t, rfl⟩ := p2
  have hl' : h''.IsList a vs.toArray := let ⟨o, ho, q⟩ := hl; ⟨o, (k4.trans F''.keep) _ _ ho, q⟩
  refine ⟨a, vs.toArray, none, some (b : Int), rfl, hl', by simpa [hi.length] using hsz, .none, .int _ _, ?_⟩
  have kp1 := Sub.push h'' { cls := .type "slice", data := .fields #[.none, .int (b : Int) t, .none] }
  have kp2 := Sub.push (h''.push { cls := .type "slice", data := .fields #[.none, .int (b : Int) t, .none] }) { cls := .type "list", data := .seq (slicePick vs.toArray none (some (b : Int)) none) }
  obtain ⟨g3, F3, k5, hn⟩ := F''.growN (tk := tk') (kp1.trans kp2)
  have hsize : (h''.push { cls := .type "slice", data := .fields #[.none, .int (b : Int) t, .none] }).objs.size = h''.objs.size + 1 := Heap.size_push _ _
  refine c _ g3 _ tk' (k1.trans (k3.trans (kp1.trans kp2))) (k2.trans (k4.trans k5)) F3 ⟨vs.take b, ⟨h''.objs.size + 1, _, rfl, hn (h''.objs.size + 1) _ ?_ (hsize ▸ Heap.get?_push_size _ rfl), rfl, rfl, 0, ?_⟩, hi.take b⟩
  · cases e : h''.get? (h''.objs.size + 1) with
    | none => rfl
    | some o =>
      have hlt : h''.objs.size + 1 < h''.objs.size := Heap.lt_size e
      exact absurd hlt (Nat.not_lt.mpr (Nat.le_succ _))
  · show Data.seq _ 0 = Data.seq _ 0
    rw [slice_take]
theorem ev_fdiv {l r : Expr} {pos : Pos} {a b : Int} (hb : b ≠ 0) (hs : b.natAbs < 1073741824) (hl : Tr prog w A kp env m cm own g (eval l env) (pI a)) (hr : Tr prog w A kp env m cm own g (eval r env) (pI b)) :
    Tr prog w A kp env m cm own g (eval (.BinOp l .FloorDiv r pos) env) (pI (a.fdiv b)) := ev_binI hl hr fun _ _ _ _ _ c => floordiv_int hb (c _ _) (Or.inl (PyProof.noPylong_small hs))
/-- an item of a written text -/
theorem ev_itemT {x : Str} {k₀ : Nat} {p pos : Pos} {slice : Expr} {i : Int} (h2 : Tr prog w A kp env m cm own g (eval slice env) (pI i)) (hr : fitsSsize i = true) (hin : (Txt.charAt x i).isSome = true)
    (hs : ∀ t u, subscripted slice false (.str x t) (.int i u) = operate [.str x t, .int i u] (getItem (.str x t) (.int i u))) :
    Tr prog w A kp env m cm own g (eval (.Subscript (.Constant (.str x) k₀ p) slice pos) env) (pS (Txt.item x i)) := by
  refine ev_item (P2 := fun a g' b => (∃ t, a = .str x t) ∧ ∃ t, b = .int i t) ev_str (fun g₁ a k hp => (h2.lift k).post fun g' b k' hb => ⟨hp, hb⟩) ?_
  rintro g₂ _ _ k ⟨⟨t, rfl⟩, ⟨u, rfl⟩⟩
  exact Tr.prim fun _ g₃ s Q E k3 F c => tail_any (typeIs_str _ _ _) PySem.F.slot_str_getitem.lookup (SB.getItem hr hin (c _ _ ⟨_, rfl⟩)) (hs t u)
/-- len of a list of the frame's own -/
theorem ev_lenO {mg mb : Str → Option Value} {p pos : Pos} {e : Expr} {d : Addr} {o : Obj} {vs : List Value} (G : Gd mg mb g) (hm : (d, o) ∈ own) (lo : LObj o vs) (he : Tr prog w A kp env m cm own g (eval e env) (pV (.ref d))) (hsz : vs.length < 2 ^ 62)
    (hs : starEach [e] env = [(false, eval e env)] := by rfl) (hg : env.globals = mainGlobals := by rfl) (hb : env.builtins = builtinsNs := by rfl)
    (hl : env.kindOf (Str.ofString "len") = some .globalImplicit := by rfl) (hk : env.scope.kind = .function := by rfl) :
    Tr prog w A kp env m cm own g (eval (.Call (.Name (Str.ofString "len") p) [e] [] pos) env) (pI (vs.length : Int)) := by
  refine ev_callB (R := AllP [pV (.ref d)]) (ev_biG G (by simp) boot_len hg hb hl hk) (args_cons (mono_V _) he args_nil (by rw [hs]; rfl)) (by rw [hs]; rfl) (by rw [hs]; rfl) ?_
  rintro g₁ _ k ⟨_, _, rfl, rfl, rfl⟩
  exact Tr.prim fun _ _ s Q E k3 F c => call_len_L (F.ow _ hm) lo hsz (c _ _ ⟨_, rfl⟩)
theorem add_LL {l b : Addr} {o o' : Obj} {vs ws : List Value} {s : Shared} {Q : Value → Shared → Prop} {E : Value → Shared → Prop} (ho : s.heap.get? l = some o) (lo : LObj o vs) (ho' : s.heap.get? b = some o') (lo' : LObj o' ws) (hsz : vs.length + ws.length ≤ sizeLine)
    (h : Q (.ref s.heap.objs.size) { s with heap := s.heap.push { cls := .type "list", data := .seq (vs ++ ws).toArray } }) : wpAny (model prog w) A (binaryOp .Add (.ref l) (.ref b)) Q E s := by
  obtain ⟨c1, d1, x1, s1⟩ := o
  obtain ⟨c2, d2, x2, s2⟩ := o'
  obtain ⟨e1, _, n1, e2⟩ := lo
  obtain ⟨e3, _, n2, e4⟩ := lo'
  simp only at e1 e2 e3 e4
  subst e1 e2 e3 e4
  refine concat_meets ⟨_, ho, rfl⟩ ⟨_, ho', rfl⟩ noFill_list_add seq_list_add PySem.F.slot_list_add PySem.F.entry_list_add (PySem.F.args_list_add_2 _ _) (list_addW l b vs.toArray ws.toArray n1 n2 d1 d2 s1 s2 (by simpa using hsz)) ⟨ho, ho', ?_⟩
  rw [show vs.toArray ++ ws.toArray = (vs ++ ws).toArray by simp]
  exact h
/-- list + list, of texts -/
theorem ev_addL {l r : Expr} {pos : Pos} {xs ys : List Str} (hsz : xs.length + ys.length ≤ sizeLine) (hl : Tr prog w A kp env m cm own g (eval l env) (pStrs xs)) (hr : Tr prog w A kp env m cm own g (eval r env) (pStrs ys)) :
    Tr prog w A kp env m cm own g (eval (.BinOp l .Add r pos) env) (fun g' v => pStrs (xs ++ ys) g' v ∧ ∃ a, v = .ref a ∧ g.get? a = none) := by
  refine Tr.three (P2 := fun v g' u => pStrs xs g' v ∧ pStrs ys g' u) (fun s Q E h => wpAny_BinOp h) hl (fun g₁ _ k hx => (hr.lift k).post fun _ _ k' hy => ⟨mono_Strs _ _ _ _ k' hx, hy⟩) ?_
  rintro g₂ _ _ k ⟨⟨vs, ⟨a, o, rfl, ho, lo⟩, hx⟩, ⟨ws, ⟨b, o', rfl, ho', lo'⟩, hy⟩⟩
  refine Tr.alloc (fun _ _ _ k h => ⟨mono_Strs _ _ _ _ k h.1, h.2⟩) fun _ _ s Q E k3 F c => ?_
  have hgs : Sub g s.heap := k.trans (k3.trans F.keep)
  exact add_LL (F.keep _ _ (k3 _ _ ho)) lo (F.keep _ _ (k3 _ _ ho')) lo' (by rw [hx.len_eq, hy.len_eq]; exact hsz)
    (c _ _ s.toks (Sub.push _ _) ⟨⟨vs ++ ws, ⟨_, _, rfl, minus_get (Heap.get?_push_size _ rfl) (get?_size _), rfl, rfl, _, rfl⟩, hx.append' hy⟩, _, rfl, fresh_size hgs⟩)
end

/-! ## the strip -/
def tabS : Str := Str.ofString "a,\"\\ ,\"\\b\t"
def sgnC (n : Int) : Str := Txt.item tabS (n.fmod 10)
def stripStep (st : List Str × List Nat) (n : Int) : List Str × List Nat :=
  (st.1 ++ [sgnC n], if ((n.fdiv 10).fmod 2 == 0) && decide ((st.2.length : Int) < 4) then st.2 ++ [st.1.length] else st.2)
def stripG (ns : List Int) : List Str × List Nat := ns.foldl stripStep ([eS, qS], [1])
theorem stripG_len : ∀ (ns : List Int) (st : List Str × List Nat), (ns.foldl stripStep st).1.length = st.1.length + ns.length ∧ (ns.foldl stripStep st).2.length ≤ st.2.length + ns.length
  | [], st => ⟨rfl, Nat.le_refl _⟩
  | n :: r, st => by
    obtain ⟨h1, h2⟩ := stripG_len r (stripStep st n)
    rw [List.foldl_cons, List.length_cons]
    have e1 : (stripStep st n).1.length = st.1.length + 1 := by simp [stripStep]
    have e2 : (stripStep st n).2.length ≤ st.2.length + 1 := by unfold stripStep; dsimp only; split <;> simp
    omega
theorem sgn_fits (n : Int) : fitsSsize (n.fmod 10) = true ∧ (Txt.charAt tabS (n.fmod 10)).isSome = true := by
  have h1 : 0 ≤ n.fmod 10 := Int.fmod_nonneg_of_pos _ (by decide)
  have h2 : n.fmod 10 < 10 := Int.fmod_lt_of_pos _ (by decide)
  have : n.fmod 10 = 0 ∨ n.fmod 10 = 1 ∨ n.fmod 10 = 2 ∨ n.fmod 10 = 3 ∨ n.fmod 10 = 4 ∨ n.fmod 10 = 5 ∨ n.fmod 10 = 6 ∨ n.fmod 10 = 7 ∨ n.fmod 10 = 8 ∨ n.fmod 10 = 9 := by omega
  rcases this with h | h | h | h | h | h | h | h | h | h <;> rw [h] <;> exact ⟨by decide, by decide⟩

/-- what the strip's call hands back -/
def pPair (P1 P2 : Heap → Value → Prop) : Heap → Value → Prop := fun g v => ∃ a o u1 u2, v = .ref a ∧ g.get? a = some o ∧ TObj o [u1, u2] ∧ P1 g u1 ∧ P2 g u2
theorem mono_Pair {P1 P2 : Heap → Value → Prop} (h1 : Mono P1) (h2 : Mono P2) : Mono (pPair P1 P2) := fun _ _ _ k ⟨a, o, u1, u2, e, h, t, p1, p2⟩ => ⟨a, o, u1, u2, e, k _ _ h, t, h1 _ _ _ k p1, h2 _ _ _ k p2⟩

theorem intsAre_snoc {vs : List Value} {ns : List Int} {n : Int} {t : Tok} (h : IntsAre vs ns) : IntsAre (vs ++ [.int n t]) (ns ++ [n]) := h.append (.cons n t .nil)

set_option maxHeartbeats 4000000 in
theorem strip_ok {prog : Program} {w : World} {A : Around} {s : Shared} {mg mb : Str → Option Value} {a : Addr} {pm code doc : Value} {v : Value} {ns : List Int}
    (hA : Aok 1 A) (G : Gd mg mb s.heap) (fn : FnAt mg s.heap 3 a pm code doc) (hns : ns.length ≤ 63) (hv : pScr ns s.heap v) :
    CallOk prog w A a [v] s (pPair (pStrs ((stripG (ns.take 8)).1 ++ [eS])) (pInts (toZ (stripG (ns.take 8)).2))) := by
  refine call_enter fn (by have := hA.depth; omega) G.nolimit (binds := [(Str.ofString "script", v)]) rfl rfl (by decide) rfl rfl rfl ?_
  intro s₁ F E'
  have hAd := (hA.deeper (k := 0) (envF 3 pm code doc s.heap.objs.size a)).hand
  refine x_new F (x := Str.ofString "signs") (Shape := fun _ o => ∃ vs, LObj o vs ∧ StrsAre vs [eS, qS]) (st_local rfl rfl) ?_ rfl ?_
  · refine Tr.alloc (mono_new _ _) fun _ g₂ s' Q E k3 F' c => wpAny_List (wpAny_items_cons (wpAny_Constant_str (wpAny_items_cons (wpAny_Constant_str (wpAny_items_nil ⟨by simp; decide, ?_⟩)) rfl)) rfl)
    exact c _ _ _ (Sub.push _ _) ⟨_, _, rfl, minus_get (Heap.get?_push_size _ rfl) (get?_size _), fresh_size (k3.trans F'.keep), _, ⟨rfl, rfl, _, rfl⟩, .cons _ _ (.cons _ _ .nil)⟩
  rintro d o g₁ s₂ ⟨vs0, lo, hvs0⟩ k1 F1
  refine x_new F1 (x := Str.ofString "free") (Shape := fun _ o => ∃ vs, LObj o vs ∧ IntsAre vs [1]) (st_local rfl rfl) ?_ rfl ?_
  · refine Tr.alloc (mono_new _ _) fun _ g₂ s' Q E k3 F' c => wpAny_List (wpAny_items_cons (wpAny_Constant_int (wpAny_items_nil ⟨by simp; decide, ?_⟩)) rfl)
    exact c _ _ _ (Sub.push _ _) ⟨_, _, rfl, minus_get (Heap.get?_push_size _ rfl) (get?_size _), fresh_size (k3.trans F'.keep), _, ⟨rfl, rfl, _, rfl⟩, .cons _ _ .nil⟩
  rintro d2 o2 g₂ s₃ ⟨ws0, lo2, hws0⟩ k2 F2
  have kg2 : Sub s.heap g₂ := k1.trans k2
  have h8 : (ns.take 8).length ≤ 8 := by rw [List.length_take]; exact Nat.min_le_left _ _
  refine x_for (J := fun i g' m' _ own' => m' (Str.ofString "signs") = some (.ref d) ∧ m' (Str.ofString "free") = some (.ref d2) ∧
      ∃ o vs o2 ws, own' = [(d2, o2), (d, o)] ∧ LObj o vs ∧ StrsAre vs (stripG ((ns.take 8).take i)).1 ∧ LObj o2 ws ∧ IntsAre ws (toZ (stripG ((ns.take 8).take i)).2)) (JB := fun _ _ _ _ => False)
    F2 (n := (ns.take 8).length) (P := fun i u => ∃ n t, (ns.take 8)[i]? = some n ∧ u = .int n t) (Pv := pInts (ns.take 8))
    (ev_upto (b := 8) (ev_LP (v := v) (by simp [fmU, upd, ofS_inj]; rfl) (mono_Scr _ _ _ _ kg2 hv) (mono_Scr _)) ev_int (by have : (63 : Nat) ≤ sizeLine := by decide
                                                                                                                            omega) (fun _ _ => rfl))
    (fun g' v k h => itr_ints hAd h) (st_local rfl rfl) ?_ ?_ ?_ ?_
  · intro g' k
    exact ⟨by simp [fmU, upd, ofS_inj], by simp [fmU, upd], o, vs0, o2, ws0, rfl, lo, hvs0, lo2, hws0⟩
  · rintro kp' i _ g₃ m₃ cm₃ own₃ s₄ E3 hi kk3 ⟨n, t, hn, rfl⟩ ⟨hm1, hm2, o, vs, o2, ws, rfl, lo, hvs, lo2, hws⟩ F3
    have kg3 : Sub s.heap g₃ := kg2.trans kk3
    have hstep : stripG ((ns.take 8).take (i + 1)) = stripStep (stripG ((ns.take 8).take i)) n := foldl_take _ _ _ _ _ hn
    have hlen := stripG_len ((ns.take 8).take i) ([eS, qS], [1])
    have hil : ((ns.take 8).take i).length ≤ 8 := by rw [List.length_take]; omega
    change (stripG ((ns.take 8).take i)).1.length = _ ∧ (stripG ((ns.take 8).take i)).2.length ≤ _ at hlen
    generalize stripG ((ns.take 8).take i) = st at *
    obtain ⟨sg, fr⟩ := st
    simp only at hvs hws hlen
    have hlv := hvs.len_eq
    have hlw := hws.length
    rw [toZ_length] at hlw
    have hl2 : sg.length ≤ 10 ∧ fr.length ≤ 9 := by
      have e1 : ([eS, qS] : List Str).length = 2 := rfl
      have e2 : ([1] : List Nat).length = 1 := rfl
      omega
    have hS : (100 : Nat) ≤ sizeLine := by decide
    have m1 : fmU (Str.ofString "n") m₃ (.int n t) (Str.ofString "signs") = some (.ref d) := by simp [fmU, upd, ofS_inj, hm1]
    have m2 : fmU (Str.ofString "n") m₃ (.int n t) (Str.ofString "free") = some (.ref d2) := by simp [fmU, upd, ofS_inj, hm2]
    have m3 : fmU (Str.ofString "n") m₃ (.int n t) (Str.ofString "n") = some (.int n t) := by simp [fmU, upd]
    refine x_ifJ (Jn := fun g' m' _ own' => m' (Str.ofString "signs") = some (.ref d) ∧ m' (Str.ofString "free") = some (.ref d2) ∧ m' (Str.ofString "n") = some (.int n t) ∧ ∃ o2 ws, own' = [(d2, o2), (d, o)] ∧ LObj o2 ws ∧ IntsAre ws (toZ (stripStep (sg, fr) n).2)) F3
      (te_and (te_eqI (ev_mod (by decide) (ev_fdiv (by decide) (by decide) (ev_LI m3) ev_int) ev_int) ev_int rfl) (fun _ => te_ltI (ev_lenO (d := d2) (o := o2) (G.keeps kg3) List.mem_cons_self lo2 (ev_L m2) (by omega)) ev_int rfl)) ?_ ?_ ?_
    · intro hb g₄ s₅ E4 k4 F4
      refine x_append F4 (ev_L m2) lo2 (by omega) (ev_lenO (d := d) (o := o) (G.keeps (kg3.trans k4)) (List.mem_cons_of_mem _ List.mem_cons_self) lo (ev_L m1) (by omega)) rfl rfl rfl rfl rfl rfl ?_
      rintro _ o5 g₅ s₆ k5 ⟨t5, rfl⟩ lo5 F5
      refine x_nil ⟨rfl, g₅, _, _, _, k4.trans k5, ⟨m1, m2, m3, o5, _, rfl, lo5, ?_⟩, F5⟩
      have hb' : (((n.fdiv 10).fmod 2 == 0) && decide ((fr.length : Int) < 4)) = true := by rw [← hlw]; exact hb
      unfold stripStep; dsimp only
      rw [if_pos hb']
      have : toZ (fr ++ [sg.length]) = toZ fr ++ [(vs.length : Int)] := by simp [toZ, hlv]
      rw [this]
      exact intsAre_snoc hws
    · intro hb g₄ s₅ E4 k4 F4
      refine x_nil ⟨rfl, g₄, _, _, _, k4, ⟨m1, m2, m3, o2, ws, rfl, lo2, ?_⟩, F4⟩
      have hb' : (((n.fdiv 10).fmod 2 == 0) && decide ((fr.length : Int) < 4)) = false := by rw [← hlw]; exact hb
      unfold stripStep; dsimp only
      rw [if_neg (by rw [hb']; simp)]; exact hws
    rintro g₄ m₄ cm₄ own₄ s₅ k4 ⟨q1, q2, q3, o4, ws4, rfl, lo4, hws4⟩ F4
    refine x_append F4.swap (ev_L q1) lo (by omega) (ev_itemT (x := tabS) (ev_mod (by decide) (ev_LI q3) ev_int) (sgn_fits n).1 (sgn_fits n).2 (fun _ _ => rfl)) rfl rfl rfl rfl rfl rfl ?_
    rintro _ o5 g₅ s₆ k5 ⟨t5, rfl⟩ lo5 F5
    refine x_nil ⟨g₅, _, _, _, k4.trans k5, ⟨q1, q2, o5, _, o4, ws4, rfl, lo5, ?_, lo4, ?_⟩, F5.swap⟩
    · rw [hstep]; exact hvs.append' (.cons _ t5 .nil)
    · rw [hstep]; exact hws4
  · rintro g₃ m₃ cm₃ own₃ s₄ kk3 (⟨hm1, hm2, o, vs, o2, ws, rfl, lo, hvs, lo2, hws⟩ | h) F3
    · rw [List.take_length] at hvs hws
      have kg3 : Sub s.heap g₃ := kg2.trans kk3
      have hdn : s.heap.get? d = none := kg3.none (F3.hid _ (mem_hidden_own (p := (d, o)) (List.mem_cons_of_mem _ List.mem_cons_self)))
      have hdn2 : s.heap.get? d2 = none := kg3.none (F3.hid _ (mem_hidden_own (p := (d2, o2)) List.mem_cons_self))
      obtain ⟨g₄, F4, k4, hd2⟩ := F3.freeze
      obtain ⟨g₅, F5, k5, hd⟩ := F4.freeze
      have kg5 := kg3.trans (k4.trans k5)
      have hlen := stripG_len (ns.take 8) ([eS, qS], [1])
      change (stripG (ns.take 8)).1.length = _ ∧ (stripG (ns.take 8)).2.length ≤ _ at hlen
      have hl2 : (stripG (ns.take 8)).1.length ≤ 10 := by
        have e1 : (([eS, qS], [1]) : List Str × List Nat).1.length = 2 := rfl
        omega
      have hS : (100 : Nat) ≤ sizeLine := by decide
      refine x_ret F5 (P := fun g' v => ∃ b ob u1 u2, v = .ref b ∧ g'.get? b = some ob ∧ g₅.get? b = none ∧ TObj ob [u1, u2] ∧ (pStrs ((stripG (ns.take 8)).1 ++ [eS]) g' u1 ∧ ∃ a, u1 = .ref a ∧ g₅.get? a = none) ∧ u2 = .ref d2) ?_ ?_
      · intro s₀ ga sa Q E ka Fa c
        refine wpAny_Tuple ((args_cons (Ps := [pV (.ref d2)]) (P := fun g' v => pStrs ((stripG (ns.take 8)).1 ++ [eS]) g' v ∧ ∃ a, v = .ref a ∧ g₅.get? a = none) (fun _ _ _ k h => ⟨mono_Strs _ _ _ _ k h.1, h.2⟩)
          (ev_addL (xs := (stripG (ns.take 8)).1) (ys := [eS]) (by simp; omega) (ev_LP hm1 ⟨vs, ⟨d, o, rfl, hd, lo⟩, hvs⟩ (mono_Strs _)) (ev_strs1 ev_str)) (args_cons (mono_V _) (ev_L hm2) args_nil rfl) rfl) s₀ ga sa _ E ka Fa fun us g' h' tk kb kc Fb pr => ?_)
        obtain ⟨u1, _, rfl, p1, u2, _, rfl, rfl, rfl⟩ := pr
        refine ⟨by simp; omega, ?_⟩
        obtain ⟨g'', Fc, kd, hnew⟩ := Fb.growN (tk := tk) (Sub.push h' { cls := .type "tuple", data := .seq [u1, .ref d2].toArray })
        exact c _ g'' _ tk (kb.trans (Sub.push _ _)) (kc.trans kd) Fc ⟨_, _, u1, _, rfl, hnew _ _ (get?_size h') (Heap.get?_push_size _ rfl), fresh_size ((ka.trans kc).trans Fb.keep), ⟨rfl, _, rfl⟩, ⟨mono_Strs _ _ _ _ kd p1.1, p1.2⟩, rfl⟩
      · rintro _ g₆ s₆ k6 ⟨b, ob, u1, u2, rfl, hb, hbn, tb, ⟨⟨vs1, ⟨a1, o1, rfl, ha1, l1⟩, hv1⟩, a1', e1, hn1⟩, rfl⟩ F6
        cases e1
        obtain ⟨h', tk, rfl⟩ := F6.same
        refine ⟨_, h', tk, rfl, rfl, (kg5.trans k6).trans F6.keep, b, ob, _, _, rfl, minus_get (F6.keep _ _ hb) (kg5.none hbn), tb, ⟨vs1, ⟨a1, o1, rfl, minus_get (F6.keep _ _ ha1) (kg5.none hn1), l1⟩, hv1⟩,
          ⟨ws, ⟨d2, o2, rfl, minus_get (F6.keep _ _ (k6 _ _ (k5 _ _ hd2))) hdn2, lo2⟩, hws⟩⟩
    · exact h.elim
  · intro x; rfl
end Mine

namespace Mine
open PySem PySem.Calls PyProof.Rows PySem.W

def rowGo (free : List Nat) : List Nat → List Nat
  | [] => []
  | j :: r => j :: if j ∈ free then rowGo free r else []
def rowF (free : List Nat) (M i : Nat) : List Nat := rowGo free (List.range' (i + 1) (M - (i + 1)))
def nextsF (free : List Nat) (M : Nat) : List (List Nat) := (List.range (M - 1)).map (rowF free M)
theorem rowGo_all {free : List Nat} : ∀ {l : List Nat}, (∀ j ∈ l, j ∈ free) → rowGo free l = l
  | [], _ => rfl
  | j :: r, h => by
    rw [rowGo, if_pos (h j List.mem_cons_self), rowGo_all fun k hk => h k (List.mem_cons_of_mem _ hk)]
theorem rowGo_stop {free : List Nat} {j : Nat} (hj : j ∉ free) : ∀ {a b : List Nat}, (∀ j ∈ a, j ∈ free) → rowGo free (a ++ j :: b) = a ++ [j]
  | [], b, _ => by simp [rowGo, hj]
  | k :: a, b, h => by
    rw [List.cons_append, rowGo, if_pos (h k List.mem_cons_self), rowGo_stop hj fun x hx => h x (List.mem_cons_of_mem _ hx)]; rfl

set_option maxHeartbeats 4000000 in
theorem nexts_ok {prog : Program} {w : World} {A : Around} {s : Shared} {mg mb : Str → Option Value} {a : Addr} {pm code doc : Value} {v1 v2 : Value} {sg : List Str} {free : List Nat}
    (hA : Aok 1 A) (G : Gd mg mb s.heap) (fn : FnAt mg s.heap 4 a pm code doc) (hsz : sg.length ≤ 2 ^ 20) (h1 : pStrs sg s.heap v1) (h2 : pInts (toZ free) s.heap v2) :
    CallOk prog w A a [v1, v2] s (pNx (nextsF free sg.length)) := by
  refine call_enter fn (by have := hA.depth; omega) G.nolimit (binds := [(Str.ofString "signs", v1), (Str.ofString "free", v2)]) rfl rfl (by decide) rfl rfl rfl ?_
  intro s₁ F E'
  have hAd := (hA.deeper (k := 0) (envF 4 pm code doc s.heap.objs.size a)).hand
  have hS : (2 : Nat) ^ 20 + 2 ^ 20 ≤ sizeLine := by decide
  refine x_new F (x := Str.ofString "rows") (Shape := fun _ o => LObj o []) (st_local rfl rfl) (Tr.alloc (mono_new _ _) fun _ g₂ s' Q E k3 F' c => wpAny_List (wpAny_items_nil ⟨by decide, c _ _ _ (Sub.push _ _) ⟨_, _, rfl, minus_get (Heap.get?_push_size _ rfl) (get?_size _), fresh_size (k3.trans F'.keep), rfl, rfl, _, rfl⟩⟩)) rfl ?_
  rintro d o g₁ s₂ lo k1 F1
  have hend : (sg.length : Int) - 1 = ((sg.length - 1 : Nat) : Int) ∨ sg.length = 0 := by omega
  refine x_for (J := fun i g' m' _ own' => m' (Str.ofString "rows") = some (.ref d) ∧ m' (Str.ofString "signs") = some v1 ∧ m' (Str.ofString "free") = some v2 ∧
      ∃ o' vs, own' = [(d, o')] ∧ LObj o' vs ∧ Paired (fun u row => pInts row (minus g' s.heap) u) vs (((List.range i).map (rowF free sg.length)).map toZ)) (JB := fun _ _ _ _ => False)
    F1 (n := sg.length - 1) (P := fun i v => ∃ t, v = .int (0 + (i : Int)) t) (Pv := pRange 0 ((sg.length : Int) - 1))
    (ev_range1 (G.keeps k1) (ev_sub (ev_lenS (G.keeps k1) (ev_LP (v := v1) rfl (mono_Strs _ _ _ _ k1 h1) (mono_Strs _)) (by omega)) ev_int))
    (fun g' v k h => itr_range hAd (by decide) (by decide) (by omega) (by omega) (by omega) h) (st_local rfl rfl) ?_ ?_ ?_ ?_
  · intro g' k
    exact ⟨rfl, rfl, rfl, o, [], rfl, lo, .nil⟩
  · rintro kp' i _ g₂ m₂ cm₂ own₂ s₃ E3 hi kk2 ⟨t, rfl⟩ ⟨hm1, hm2, hm3, o', vs, rfl, lo', hvs⟩ F2
    rw [Int.zero_add] at F2
    have kg2 : Sub s.heap g₂ := k1.trans kk2
    have m1 : fmU (Str.ofString "i") m₂ (.int (i : Int) t) (Str.ofString "rows") = some (.ref d) := by simp [fmU, upd, ofS_inj, hm1]
    have m2 : fmU (Str.ofString "i") m₂ (.int (i : Int) t) (Str.ofString "signs") = some v1 := by simp [fmU, upd, ofS_inj, hm2]
    have m3 : fmU (Str.ofString "i") m₂ (.int (i : Int) t) (Str.ofString "free") = some v2 := by simp [fmU, upd, ofS_inj, hm3]
    have mi : fmU (Str.ofString "i") m₂ (.int (i : Int) t) (Str.ofString "i") = some (.int (i : Int) t) := by simp [fmU, upd]
    generalize fmU (Str.ofString "i") m₂ (.int (i : Int) t) = m₃ at *
    refine x_new F2 (x := Str.ofString "row") (Shape := fun _ o => LObj o []) (st_local rfl rfl) (Tr.alloc (mono_new _ _) fun _ g₂ s' Q E k3 F' c => wpAny_List (wpAny_items_nil ⟨by decide, c _ _ _ (Sub.push _ _) ⟨_, _, rfl, minus_get (Heap.get?_push_size _ rfl) (get?_size _), fresh_size (k3.trans F'.keep), rfl, rfl, _, rfl⟩⟩)) rfl ?_
    rintro d3 o3 g₃ s₄ lo3 k3 F3
    have kg3 := kg2.trans k3
    -- the row's numbers
    have hR : ∀ l, l < sg.length - (i + 1) → (List.range' (i + 1) (sg.length - (i + 1)))[l]? = some (i + 1 + l) := fun l hl => by simp [List.getElem?_range', hl]
    refine x_for (J := fun l g' m' _ own' => m' (Str.ofString "row") = some (.ref d3) ∧ m' (Str.ofString "rows") = some (.ref d) ∧ m' (Str.ofString "signs") = some v1 ∧ m' (Str.ofString "free") = some v2 ∧
        ∃ o3 ws, own' = [(d3, o3), (d, o')] ∧ LObj o3 ws ∧ IntsAre ws (toZ ((List.range' (i + 1) (sg.length - (i + 1))).take l)) ∧ ∀ j ∈ (List.range' (i + 1) (sg.length - (i + 1))).take l, j ∈ free)
      (JB := fun g' m' _ own' => m' (Str.ofString "row") = some (.ref d3) ∧ m' (Str.ofString "rows") = some (.ref d) ∧ m' (Str.ofString "signs") = some v1 ∧ m' (Str.ofString "free") = some v2 ∧
        ∃ o3 ws, own' = [(d3, o3), (d, o')] ∧ LObj o3 ws ∧ IntsAre ws (toZ (rowF free sg.length i)))
      F3 (n := sg.length - (i + 1)) (P := fun l v => ∃ t, v = .int ((i : Int) + 1 + (l : Int)) t) (Pv := pRange ((i : Int) + 1) (sg.length : Int))
      (ev_range2 (G.keeps kg3) (ev_add (ev_LI (t := t) (by simp [fmU, upd, ofS_inj, mi])) ev_int) (ev_lenS (G.keeps kg3) (ev_LP (v := v1) (by simp [fmU, upd, ofS_inj, m2]) (mono_Strs _ _ _ _ kg3 h1) (mono_Strs _)) (by omega)))
      (fun g' v k h => itr_range hAd (by omega) (by omega) (by omega) (by omega) (by omega) h) (st_local rfl rfl) ?_ ?_ ?_ ?_
    · intro g' k
      exact ⟨by simp [fmU, upd], by simp [fmU, upd, ofS_inj, m1], by simp [fmU, upd, ofS_inj, m2], by simp [fmU, upd, ofS_inj, m3], o3, [], rfl, lo3, .nil, fun _ h => nomatch h⟩
    · rintro kp4 l _ g₄ m₄ cm₄ own₄ s₅ E4 hl kk4 ⟨t4, rfl⟩ ⟨q0, q1, q2, q3, o4, ws, rfl, lo4, hws, hfr⟩ F4
      have kg4 := kg3.trans kk4
      have ej : (i : Int) + 1 + (l : Int) = ((i + 1 + l : Nat) : Int) := by omega
      rw [ej] at F4
      have M0 : fmU (Str.ofString "j") m₄ (.int ((i + 1 + l : Nat) : Int) t4) (Str.ofString "row") = some (.ref d3) := by simp [fmU, upd, ofS_inj, q0]
      have M1 : fmU (Str.ofString "j") m₄ (.int ((i + 1 + l : Nat) : Int) t4) (Str.ofString "rows") = some (.ref d) := by simp [fmU, upd, ofS_inj, q1]
      have M2 : fmU (Str.ofString "j") m₄ (.int ((i + 1 + l : Nat) : Int) t4) (Str.ofString "signs") = some v1 := by simp [fmU, upd, ofS_inj, q2]
      have M3 : fmU (Str.ofString "j") m₄ (.int ((i + 1 + l : Nat) : Int) t4) (Str.ofString "free") = some v2 := by simp [fmU, upd, ofS_inj, q3]
      have MJ : fmU (Str.ofString "j") m₄ (.int ((i + 1 + l : Nat) : Int) t4) (Str.ofString "j") = some (.int ((i + 1 + l : Nat) : Int) t4) := by simp [fmU, upd]
      generalize fmU (Str.ofString "j") m₄ (.int ((i + 1 + l : Nat) : Int) t4) = m₅ at *
      have hlw := hws.length
      rw [toZ_length, List.length_take, List.length_range'] at hlw
      have htake : (List.range' (i + 1) (sg.length - (i + 1))).take (l + 1) = (List.range' (i + 1) (sg.length - (i + 1))).take l ++ [i + 1 + l] := by rw [List.take_add_one, hR l hl]; rfl
      refine x_append F4 (ev_L M0) lo4 (by omega) (ev_LI MJ) rfl rfl rfl rfl rfl rfl ?_
      rintro _ o5 g₅ s₆ k5 ⟨t5, rfl⟩ lo5 F5
      have hws5 : IntsAre (ws ++ [.int ((i + 1 + l : Nat) : Int) t5]) (toZ ((List.range' (i + 1) (sg.length - (i + 1))).take (l + 1))) := by
        rw [htake]
        have : toZ ((List.range' (i + 1) (sg.length - (i + 1))).take l ++ [i + 1 + l]) = toZ ((List.range' (i + 1) (sg.length - (i + 1))).take l) ++ [((i + 1 + l : Nat) : Int)] := by simp [toZ]
        rw [this]; exact intsAre_snoc hws
      refine x_if F5 (te_ninI (ev_LI MJ) (ev_LP M3 (mono_Ints _ _ _ _ (kg4.trans k5) h2) (mono_Ints _)) rfl) ?_ ?_
      · intro hb g₆ s₇ k6 F6
        rw [any_toZ] at hb
        have hnot : i + 1 + l ∉ free := by simpa using hb
        refine x_brk ⟨g₆, _, _, _, k5.trans k6, ⟨M0, M1, M2, M3, o5, _, rfl, lo5, ?_⟩, F6⟩
        have hsplit : List.range' (i + 1) (sg.length - (i + 1)) = (List.range' (i + 1) (sg.length - (i + 1))).take l ++ (i + 1 + l) :: (List.range' (i + 1) (sg.length - (i + 1))).drop (l + 1) := by
          conv => lhs; rw [← List.take_append_drop (l + 1) (List.range' (i + 1) (sg.length - (i + 1))), htake]
          simp
        have : rowF free sg.length i = (List.range' (i + 1) (sg.length - (i + 1))).take (l + 1) := by
          rw [htake]
          unfold rowF
          rw [hsplit, rowGo_stop hnot hfr]
          congr 1
          rw [← hsplit]
        rw [this]; exact hws5
      · intro hb g₆ s₇ k6 F6
        rw [any_toZ] at hb
        have hin : i + 1 + l ∈ free := by simpa using hb
        refine x_nil (x_nil ⟨g₆, _, _, _, k5.trans k6, ⟨M0, M1, M2, M3, o5, _, rfl, lo5, hws5, ?_⟩, F6⟩)
        intro j hj
        rw [htake] at hj
        rcases List.mem_append.mp hj with h | h
        · exact hfr j h
        · rw [List.mem_singleton.mp h]; exact hin
    · intro g₄ m₄ cm₄ own₄ s₅ kk4 hor F4
      have kg4 := kg3.trans kk4
      have hone : m₄ (Str.ofString "row") = some (.ref d3) ∧ m₄ (Str.ofString "rows") = some (.ref d) ∧ m₄ (Str.ofString "signs") = some v1 ∧ m₄ (Str.ofString "free") = some v2 ∧
          ∃ o3 ws, own₄ = [(d3, o3), (d, o')] ∧ LObj o3 ws ∧ IntsAre ws (toZ (rowF free sg.length i)) := by
        rcases hor with ⟨q0, q1, q2, q3, o4, ws, rfl, lo4, hws, hfr⟩ | h
        · refine ⟨q0, q1, q2, q3, o4, ws, rfl, lo4, ?_⟩
          have e : (List.range' (i + 1) (sg.length - (i + 1))).take (sg.length - (i + 1)) = List.range' (i + 1) (sg.length - (i + 1)) := List.take_of_length_le (by simp)
          rw [e] at hws hfr
          unfold rowF; rw [rowGo_all hfr]; exact hws
        · exact h
      obtain ⟨q0, q1, q2, q3, o4, ws, rfl, lo4, hws⟩ := hone
      have hdn3 : s.heap.get? d3 = none := kg4.none (F4.hid _ (mem_hidden_own (p := (d3, o4)) List.mem_cons_self))
      obtain ⟨g₅, F5, k5, hd5⟩ := F4.freeze
      have hlv := hvs.length
      simp only [List.length_map, List.length_range] at hlv
      refine x_append F5 (ev_L q1) lo' (by omega) (ev_L q0) rfl rfl rfl rfl rfl rfl ?_
      rintro _ o6 g₆ s₆ k6 rfl lo6 F6
      refine x_nil ⟨g₆, _, _, _, k3.trans (kk4.trans (k5.trans k6)), ⟨q1, q2, q3, o6, _, rfl, lo6, ?_⟩, F6⟩
      rw [List.range_succ, List.map_append, List.map_append]
      refine Paired.snoc (Paired.imp' (fun _ _ h => mono_Ints _ _ _ _ (minus_mono (k3.trans (kk4.trans (k5.trans k6)))) h) hvs) ?_
      exact ⟨ws, ⟨d3, o4, rfl, minus_get (k6 _ _ hd5) hdn3, lo4⟩, hws⟩
    · intro x; rfl
  · rintro g₂ m₂ cm₂ own₂ s₃ kk2 (⟨hm1, hm2, hm3, o', vs, rfl, lo', hvs⟩ | h) F2
    · refine x_ret F2 (ev_L hm1) ?_
      rintro _ g₃ s₄ k3 rfl F3
      obtain ⟨h', tk, rfl⟩ := F3.same
      have kg := k1.trans (kk2.trans k3)
      refine ⟨_, h', tk, rfl, rfl, kg.trans F3.keep, vs, ⟨d, o', rfl, minus_get (F3.ow _ List.mem_cons_self) (kg.none (F3.hid _ (mem_hidden_own (p := (d, o')) List.mem_cons_self))), lo'⟩, ?_⟩
      exact Paired.imp' (fun _ _ h => mono_Ints _ _ _ _ (minus_mono (k3.trans F3.keep)) h) hvs
    · exact h.elim
  · intro x; rfl
end Mine

namespace Mine
open PySem PySem.Calls PyProof.Rows PySem.W

section
variable {prog : Program} {w : World} {A : Around} {kp own : List (Addr × Obj)} {env : Env} {m cm : Str → Option Value} {g : Heap} {s₀ s : Shared} {Q : Flow → Shared → Prop} {E : Value → Shared → Prop}

theorem Fm.storeK (F : Fm s₀ g kp env m cm own s) {x : Str} {v : Value} {h' : Heap} {tk : Nat} (hn : h'.Ns env.locals (fun y => if y = x then some v else m y)) (k : ∀ b o, b ≠ env.locals → s.heap.get? b = some o → h'.get? b = some o) :
    Fm s₀ g kp env (upd m x v) cm own { s with heap := h', toks := tk } where
  same := let ⟨_, _, e⟩ := F.same; ⟨h', tk, by rw [e]⟩
  keep := fun b o e => k b o (fun q => by rw [q, F.hid _ F.local_] at e; cases e) (F.keep b o e)
  ns := hn
  cell := fun n c h => by
    obtain ⟨o, ho, hd⟩ := F.cell n c h
    exact ⟨o, k c o (apart_locals F (List.mem_append_left _ (List.mem_map.mpr ⟨_, h, rfl⟩))) ho, hd⟩
  ow := fun p h => k _ _ (apart_locals F (List.mem_append_right _ (List.mem_append_left _ (List.mem_map.mpr ⟨_, h, rfl⟩)))) (F.ow p h)
  kept := fun p h => k _ _ (apart_locals F (List.mem_append_right _ (List.mem_append_right _ (List.mem_map.mpr ⟨_, h, rfl⟩)))) (F.kept p h)
  hid := F.hid
  apart := F.apart
theorem Fm.regrow (F : Fm s₀ g kp env m cm own s) : ∃ g', Fm s₀ g' kp env m cm own s ∧ Sub g g' ∧ ∀ a o, s.heap.get? a = some o → a ∉ hidden env kp own → g'.get? a = some o :=
  ⟨hideAll s.heap (hidden env kp own), F.rebase (hide_sub _ _) (fun a ha => hideAll_none _ ha), sub_hide F.keep F.hid, fun a o e hn => hideAll_get _ e hn⟩

theorem compFm {scope : Scope} {cl : List (Str × Addr)} {o : Obj} {h' : Heap} {s' : Shared} (F' : Fm s₀ g kp env m cm own s') (e' : s'.heap = h') (hsub : ∀ nc ∈ cl, nc ∈ env.cells) (hnd : (cl.map (·.2)).Nodup) {C : Addr} {s₃ : Shared} {m₃ : Str → Option Value} (hC : (h'.push o).objs.size ≤ C)
    (hns : s₃.heap.Ns C m₃) (hk : ∀ b q, b ∉ [h'.objs.size] → (h'.push o).get? b = some q → s₃.heap.get? b = some q) : Fm s₃ g [] (compEnvC scope cl C env) m₃ cm [] s₃ := by
  subst e'
  have hk' : Sub s'.heap s₃.heap := fun b q e => hk b q (fun hm => by rw [List.mem_singleton.mp hm, get?_size] at e; cases e) (Heap.get?_push_of_some _ e)
  have hcl : ∀ c ∈ cl.map (·.2), c ∈ hidden env kp own := fun c hc => by
    obtain ⟨nc, h1, rfl⟩ := List.mem_map.mp hc
    exact List.mem_cons_of_mem _ (List.mem_append_left _ (List.mem_map.mpr ⟨nc, hsub nc h1, rfl⟩))
  have hlt : ∀ c ∈ cl.map (·.2), c < s'.heap.objs.size := fun c hc => by
    obtain ⟨q, e⟩ := F'.there c (hcl c hc)
    exact Heap.lt_size e
  rw [Heap.size_push] at hC
  refine ⟨⟨_, _, rfl⟩, F'.keep.trans hk', hns, ?_, fun _ h => (nomatch h), fun _ h => (nomatch h), ?_, ?_⟩
  · intro nm c hm
    exact (F'.cell nm c (hsub _ hm)).keeps hk'
  · intro b hb
    unfold hidden at hb
    simp only [List.map_nil, List.append_nil] at hb
    rcases List.mem_cons.mp hb with hbC | hb
    · have hbC' : b = C := hbC
      cases e : g.get? b with
      | none => rfl
      | some q =>
        have h2 : b < s'.heap.objs.size := Heap.lt_size (F'.keep _ _ e)
        rw [hbC'] at h2
        exact absurd (Nat.lt_of_lt_of_le h2 (Nat.le_of_succ_le hC)) (Nat.lt_irrefl _)
    · exact F'.hid b (hcl b hb)
  · unfold hidden
    simp only [List.map_nil, List.append_nil]
    refine List.nodup_cons.mpr ⟨fun hm => ?_, hnd⟩
    have h2 := hlt _ hm
    have h3 : C < s'.heap.objs.size := h2
    exact absurd (Nat.lt_of_lt_of_le h3 (Nat.le_of_succ_le hC)) (Nat.lt_irrefl _)

/-- name = [comprehension] -/
theorem x_comp {elt iter : Expr} {x y : Str} {px py : Pos} {ifs : List Expr} {scope : Scope} {cl : List (Str × Addr)} {pos spos : Pos} {n : Nat} {P : Nat → Value → Prop} {Pv : Heap → Value → Prop} {rest : List Stmt} (p : Value → Bool) (Fv : Value → Value → Prop)
    (F : Fm s₀ g kp env m cm own s) (hsw : swapsWith (.ListComp elt [⟨.Name x px, iter, ifs, 0⟩] scope pos) (some (.Name y py)) spos.line env = pure true)
    (hclos : closureFor scope env = pure cl) (hcell : ∀ y ∈ scope.names, y.2 ≠ .cell) (hkind : scope.kind = .function)
    (hnames : ∀ y ∈ scope.names, y.2 = .local → scope.names.lookup y.1 = some .local) (hx : scope.names.lookup x = some .local) (hy : env.kindOf y = some .local) (hk : env.scope.kind = .function)
    (hsub : ∀ nc ∈ cl, nc ∈ env.cells) (hnd : (cl.map (·.2)).Nodup)
    (hiter : Tr prog w A kp env m cm own g (eval iter env) Pv) (hI : ∀ g' v, Sub g g' → Pv g' v → Itr prog w A g' v n P) (hn : n ≤ sizeLine)
    (htest : ∀ C m₃ i v g', Sub g g' → P i v → m₃ x = some v → Tr prog w A [] (compEnvC scope cl C env) m₃ cm [] g' (compTest ifs (compEnvC scope cl C env)) (pT (p v)))
    (helt : ∀ C m₃ i v g', Sub g g' → P i v → p v = true → m₃ x = some v → Tr prog w A [] (compEnvC scope cl C env) m₃ cm [] g' (eval elt (compEnvC scope cl C env)) (fun _ y => Fv v y))
    (c : ∀ a o (vs ys : List Value) g' s', Sub g g' → g'.get? a = some o → g.get? a = none → LObj o ys → vs.length = n → (∀ j v, vs[j]? = some v → P j v) → Paired Fv (vs.filter p) ys → Fm s₀ g' kp env (fmU y m (.ref a)) cm own s' → wpAny (model prog w) A (execs rest env) Q E s')
    (hs : ∀ x, foldedSetIterable iter env x = pure x) :
    wpAny (model prog w) A (execs (.Assign [.Name y py] (.ListComp elt [⟨.Name x px, iter, ifs, 0⟩] scope pos) spos :: rest) env) Q E s := by
  refine wpAny_execs_cons (wpAny_Assign_ListComp_free p Fv hsw hclos hcell hkind hnames hx hy (by rw [hk]; rfl) (hiter s₀ g s _ E (Sub.refl _) F fun v g' h' tk k1 k2 F' pv => ?_) hs)
  refine hI g' v k2 pv _ _ E F'.keep fun o St ax W h0 hex hax => ?_
  have hL : env.locals < h'.objs.size := by
    obtain ⟨q, e⟩ := F'.there _ F'.local_
    exact Heap.lt_size e
  refine ⟨_, _, _, n, P, St, m, rfl, W, hn, h0, ?_, ?_, ?_, ?_, ?_⟩
  · intro b hb
    show b < (h'.push o).objs.size
    rw [Heap.size_push]
    rcases List.mem_cons.mp hb with rfl | hb
    · exact Nat.lt_succ_self _
    · obtain ⟨o', ho'⟩ := hax b hb
      exact Nat.lt_succ_of_lt (Heap.lt_size (F'.keep _ _ ho'))
  · intro hm
    have e : env.locals = h'.objs.size := List.mem_singleton.mp hm
    rw [e] at hL; exact Nat.lt_irrefl _ hL
  · exact F'.ns.keeps (Sub.push h' o)
  · constructor
    · intro C i v s₃ m₃ E' hC hP hns hm₃ hk _
      exact htest C m₃ i v g' k2 hP hm₃ s₃ g' s₃ _ E' (Sub.refl _) (compFm F' rfl hsub hnd hC hns hk) fun b g'' h'' tk'' k3 _ _ pr => ⟨pr, h'', tk'', rfl, k3⟩
    · intro C i v s₃ m₃ E' hC hP hp hns hm₃ hk _
      exact helt C m₃ i v g' k2 hP hp hm₃ s₃ g' s₃ _ E' (Sub.refl _) (compFm F' rfl hsub hnd hC hns hk) fun b g'' h'' tk'' k3 _ _ pr => ⟨pr, h'', tk'', rfl, k3⟩
  · intro D h'' tk'' ys vs hD hl hpl hlen hP hpair hNs hk
    have hk' : ∀ b q, b ≠ env.locals → h'.get? b = some q → h''.get? b = some q := fun b q hb e => hk b q hb (fun hm => by rw [List.mem_singleton.mp hm, get?_size] at e; cases e) (Heap.get?_push_of_some _ e)
    have hD' : h'.get? D = none := (Sub.push h' o).none hD
    have hDh : D ∉ hidden env kp own := fun hm => by obtain ⟨q, e⟩ := F'.there D hm; have e' : h'.get? D = some q := e; rw [hD'] at e'; cases e'
    have F2 := F'.storeK (tk := tk'') hNs hk'
    obtain ⟨g'', F3, k3, hnew⟩ := F2.regrow
    obtain ⟨nn, hpl⟩ := hpl
    exact c D _ vs ys.toList g'' _ (k2.trans k3) (hnew D _ hpl hDh) ((k2.trans F'.keep).none hD') ⟨rfl, rfl, nn, rfl⟩ hlen hP hpair F3
end

/-! ## the texts -/
def textsStep (sg : List Str) (free : List Nat) (ts : List Str) (k : Nat) : List Str := if k ∈ free then ts ++ ts.map (· ++ sgA sg k) else ts.map (· ++ sgA sg k)
def textsG (sg : List Str) (free : List Nat) (n : Nat) : List Str := (List.range' 1 n).foldl (textsStep sg free) [eS]
theorem textsG_succ (sg : List Str) (free : List Nat) (n : Nat) : textsG sg free (n + 1) = textsStep sg free (textsG sg free n) (n + 1) := by
  unfold textsG
  rw [List.range'_concat, List.foldl_append]
  simp [Nat.add_comm]
theorem textsG_len {sg : List Str} {free : List Nat} (h1 : ∀ x ∈ sg, x.length ≤ 1) : ∀ n, (textsG sg free n).length ≤ 2 ^ n ∧ ∀ t ∈ textsG sg free n, t.length ≤ n
  | 0 => ⟨Nat.le_refl _, fun t ht => by rw [List.mem_singleton.mp ht]; exact Nat.le_refl _⟩
  | n + 1 => by
    obtain ⟨a, b⟩ := textsG_len (free := free) h1 n
    have hs : (sgA sg (n + 1)).length ≤ 1 := by
      unfold sgA
      by_cases h : n + 1 < sg.length
      · rw [List.getD_eq_getElem?_getD, List.getElem?_eq_getElem h]; exact h1 _ (List.getElem_mem h)
      · rw [List.getD_eq_getElem?_getD, List.getElem?_eq_none (by omega)]; exact Nat.zero_le _
    have hm : ∀ t ∈ (textsG sg free n).map (· ++ sgA sg (n + 1)), t.length ≤ n + 1 := by
      intro t ht
      obtain ⟨u, hu, rfl⟩ := List.mem_map.mp ht
      have := b u hu
      rw [Str.length_append]; omega
    rw [textsG_succ]
    unfold textsStep
    have h2 : 2 ^ (n + 1) = 2 ^ n + 2 ^ n := by rw [Nat.pow_succ]; omega
    split
    · refine ⟨by rw [List.length_append, List.length_map]; omega, fun t ht => ?_⟩
      rcases List.mem_append.mp ht with h | h
      · have := b t h; omega
      · exact hm t h
    · exact ⟨by rw [List.length_map]; omega, hm⟩

set_option maxHeartbeats 4000000 in
theorem texts_ok {prog : Program} {w : World} {A : Around} {s : Shared} {mg mb : Str → Option Value} {a : Addr} {pm code doc : Value} {v1 v2 : Value} {sg : List Str} {free : List Nat}
    (hA : Aok 1 A) (G : Gd mg mb s.heap) (fn : FnAt mg s.heap 5 a pm code doc) (hsz : sg.length ≤ 12) (hone : ∀ x ∈ sg, x.length ≤ 1) (h1 : pStrs sg s.heap v1) (h2 : pInts (toZ free) s.heap v2) :
    CallOk prog w A a [v1, v2] s (pStrs (textsG sg free (sg.length - 2))) := by
  refine call_enter fn (by have := hA.depth; omega) G.nolimit (binds := [(Str.ofString "signs", v1), (Str.ofString "free", v2)]) rfl rfl (by decide) rfl rfl rfl ?_
  intro s₁ F E'
  have hAd := (hA.deeper (k := 0) (envF 5 pm code doc s.heap.objs.size a)).hand
  have hS : (2 : Nat) ^ 20 + 2 ^ 20 ≤ sizeLine := by decide
  refine x_assign F (x := Str.ofString "texts") (st_local rfl rfl) (Tr.alloc (P := fun g' v => pStrs [eS] g' v ∧ ∃ a, v = .ref a ∧ s.heap.get? a = none) (fun _ _ _ k h => ⟨mono_Strs _ _ _ _ k h.1, h.2⟩) fun _ g₂ s' Q E k3 F' c =>
    wpAny_List (wpAny_items_cons (wpAny_Constant_str (wpAny_items_nil ⟨by simp; decide, c _ _ _ (Sub.push _ _) ⟨⟨_, ⟨_, _, rfl, minus_get (Heap.get?_push_size _ rfl) (get?_size _), rfl, rfl, _, rfl⟩, .cons _ _ .nil⟩, _, rfl, fresh_size (k3.trans F'.keep)⟩⟩)) rfl)) rfl ?_
  rintro vt g₁ s₂ k1 ⟨pt1, at1, et1, nt1⟩ F1
  have hcells : (envF 5 pm code doc s.heap.objs.size a).cells = [(Str.ofString "k", s.heap.objs.size + 2), (Str.ofString "signs", s.heap.objs.size + 1)] := rfl
  refine x_for (J := fun i g' m' cm' own' => own' = [] ∧ m' (Str.ofString "free") = some v2 ∧ cm' (Str.ofString "signs") = some v1 ∧ ∃ vt at1, m' (Str.ofString "texts") = some vt ∧ pStrs (textsG sg free i) g' vt ∧ vt = .ref at1 ∧ s.heap.get? at1 = none) (JB := fun _ _ _ _ => False)
    F1 (n := sg.length - 2) (P := fun i v => ∃ t, v = .int (1 + (i : Int)) t) (Pv := pRange 1 ((sg.length : Int) - 1))
    (ev_range2 (G.keeps k1) ev_int (ev_sub (ev_lenS (G.keeps k1) (ev_CP (v := v1) rfl (mono_Strs _ _ _ _ k1 h1) (mono_Strs _) (a := s.heap.objs.size + 1) rfl) (by omega)) ev_int))
    (fun g' v k h => itr_range hAd (by decide) (by decide) (by omega) (by omega) (by omega) h) (st_cell (a := s.heap.objs.size + 2) rfl rfl (show [Str.ofString "k", Str.ofString "signs"].Nodup by decide) rfl) ?_ ?_ ?_ ?_
  · intro g' k
    exact ⟨rfl, by simp [fmU, upd, ofS_inj]; rfl, rfl, vt, at1, by simp [fmU, upd], mono_Strs _ _ _ _ k pt1, et1, nt1⟩
  · rintro kp' i _ g₂ m₂ cm₂ own₂ s₃ E3 hi kk2 ⟨t, rfl⟩ ⟨rfl, hm1, hc1, vt, at2, hm2, pt, et, nt⟩ F2
    have ej : (1 : Int) + (i : Int) = ((i + 1 : Nat) : Int) := by omega
    rw [ej] at F2
    have kg2 : Sub s.heap g₂ := k1.trans kk2
    have hlen := textsG_len (free := free) hone i
    have hpow : (2 : Nat) ^ i ≤ 2 ^ 10 := Nat.pow_le_pow_right (by decide) (by omega)
    have hk : fmU (Str.ofString "k") cm₂ (.int ((i + 1 : Nat) : Int) t) (Str.ofString "k") = some (.int ((i + 1 : Nat) : Int) t) := by simp [fmU, upd]
    have hc2 : fmU (Str.ofString "k") cm₂ (.int ((i + 1 : Nat) : Int) t) (Str.ofString "signs") = some v1 := by simp [fmU, upd, ofS_inj, hc1]
    generalize fmU (Str.ofString "k") cm₂ (.int ((i + 1 : Nat) : Int) t) = cm₃ at *
    change Fm s g₂ kp' (envF 5 pm code doc s.heap.objs.size a) m₂ cm₃ [] s₃ at F2
    refine x_comp (cl := [(Str.ofString "signs", s.heap.objs.size + 1), (Str.ofString "k", s.heap.objs.size + 2)]) (fun _ => true) (fun v y => ∃ x t u, v = Value.str x t ∧ y = Value.str (x ++ sgA sg (i + 1)) u)
      F2 rfl rfl (by decide) rfl (by decide) rfl rfl rfl ?_ ?_ (n := (textsG sg free i).length) (P := fun l u => ∃ y t, (textsG sg free i)[l]? = some y ∧ u = .str y t) (Pv := pStrs (textsG sg free i))
      (ev_LP hm2 pt (mono_Strs _)) (fun g' v k h => itr_strs hAd h) (by omega) ?_ ?_ ?_ ?_
    · intro nc hnc
      rw [hcells]
      rcases List.mem_cons.mp hnc with rfl | hnc
      · exact List.mem_cons_of_mem _ List.mem_cons_self
      · rw [List.mem_singleton.mp hnc]; exact List.mem_cons_self
    · simp
    · intro C m₃ l v g' k hP hm
      exact tr_tests0
    · rintro C m₃ l v g' k ⟨y, ty, hy, rfl⟩ _ hm
      have hyl := hlen.2 y (List.mem_of_getElem? hy)
      have hsl : (sgA sg (i + 1)).length ≤ 1 := by
        have : sg[i + 1]? = some (sgA sg (i + 1)) := sg_at (by omega)
        exact hone _ (List.mem_of_getElem? this)
      refine (ev_addS (x := y) (y := sgA sg (i + 1)) (by omega) (ev_LS (t := ty) hm) (ev_itemS (i := i + 1) (ev_CP (v := v1) hc2 (mono_Strs _ _ _ _ (kg2.trans k) h1) (mono_Strs _) rfl) (ev_CP (P := pI ((i + 1 : Nat) : Int)) hk ⟨t, rfl⟩ (mono_I _) rfl) (sg_at (by omega)) (by omega) (fun _ _ => rfl))).post ?_
      rintro _ _ _ ⟨u, rfl⟩
      exact ⟨y, ty, u, rfl, rfl⟩
    · intro D oD us ys g₃ s₄ k3 hD hDn lo hl' hP hpair F3
      rw [List.filter_eq_self.mpr (fun _ _ => rfl)] at hpair
      have hlong : pStrs ((textsG sg free i).map (· ++ sgA sg (i + 1))) g₃ (.ref D) := ⟨ys, ⟨D, oD, rfl, hD, lo⟩, strs_map (f := (· ++ sgA sg (i + 1))) (strs_of_at hl' hP) hpair⟩
      have kg3 := kg2.trans k3
      have m1 : fmU (Str.ofString "longer") m₂ (.ref D) (Str.ofString "free") = some v2 := by simp [fmU, upd, ofS_inj, hm1]
      have m2 : fmU (Str.ofString "longer") m₂ (.ref D) (Str.ofString "texts") = some vt := by simp [fmU, upd, ofS_inj, hm2]
      have m3 : fmU (Str.ofString "longer") m₂ (.ref D) (Str.ofString "longer") = some (.ref D) := by simp [fmU, upd]
      generalize fmU (Str.ofString "longer") m₂ (.ref D) = m₃ at *
      refine x_assign F3 (x := Str.ofString "texts") (P := fun g' v => pStrs (textsG sg free (i + 1)) g' v ∧ ∃ a, v = .ref a ∧ s.heap.get? a = none) (st_local rfl rfl)
        (ev_if (te_inI (x := ((i + 1 : Nat) : Int)) (xs := toZ free) (ev_CP (P := pI ((i + 1 : Nat) : Int)) hk ⟨t, rfl⟩ (mono_I _) (a := s.heap.objs.size + 2) rfl) (ev_LP m1 (mono_Ints _ _ _ _ kg3 h2) (mono_Ints _)) rfl) ?_ ?_) rfl ?_
      · intro hb
        rw [any_toZ] at hb
        refine (ev_addL (xs := textsG sg free i) (ys := (textsG sg free i).map (· ++ sgA sg (i + 1))) (by rw [List.length_map]; omega) (ev_LP m2 (mono_Strs _ _ _ _ k3 pt) (mono_Strs _)) (ev_LP m3 hlong (mono_Strs _))).post ?_
        rintro g' v k ⟨q1, a', e', n'⟩
        refine ⟨?_, a', e', kg3.none n'⟩
        rw [textsG_succ]; unfold textsStep
        rw [if_pos (of_decide_eq_true hb)]; exact q1
      · intro hb
        rw [any_toZ] at hb
        refine (ev_LP (P := fun g' v => pStrs ((textsG sg free i).map (· ++ sgA sg (i + 1))) g' v ∧ ∃ a, v = .ref a ∧ s.heap.get? a = none) m3 ⟨hlong, D, rfl, kg2.none hDn⟩ (fun _ _ _ k h => ⟨mono_Strs _ _ _ _ k h.1, h.2⟩)).post ?_
        rintro g' v k ⟨q1, q2⟩
        refine ⟨?_, q2⟩
        rw [textsG_succ]; unfold textsStep
        rw [if_neg (of_decide_eq_false hb)]; exact q1
      · rintro v4 g₄ s₅ k4 ⟨p4, a4, e4, n4⟩ F4
        exact x_nil ⟨g₄, _, _, _, k3.trans k4, ⟨rfl, by simp [fmU, upd, ofS_inj, m1], hc2, v4, a4, by simp [fmU, upd], p4, e4, n4⟩, F4⟩
    · intro x; rfl
  · rintro g₂ m₂ cm₂ own₂ s₃ kk2 (⟨rfl, hm1, hc1, vt, at2, hm2, pt, rfl, nt⟩ | h) F2
    · refine x_ret F2 (ev_LP (P := fun g' v => pStrs (textsG sg free (sg.length - 2)) g' v ∧ v = .ref at2) hm2 ⟨pt, rfl⟩ (fun _ _ _ k h => ⟨mono_Strs _ _ _ _ k h.1, h.2⟩)) ?_
      rintro v g₃ s₄ k3 ⟨⟨vs, ⟨b, ob, rfl, hb, lo⟩, hvs⟩, e⟩ F3
      cases e
      obtain ⟨h', tk, rfl⟩ := F3.same
      exact ⟨_, h', tk, rfl, rfl, (k1.trans (kk2.trans k3)).trans F3.keep, vs, ⟨_, ob, rfl, minus_get (F3.keep _ _ hb) nt, lo⟩, hvs⟩
    · exact h.elim
  · intro x; rfl
end Mine

namespace Mine
open PySem PySem.Calls PyProof.Rows PySem.W

theorem strip_le (x : Str) : (Txt.strip x).length ≤ x.length := by
  unfold Txt.strip Txt.stripBy
  split
  · exact Nat.le_refl _
  · exact strSub_length_le _ _ _
theorem parts_len (x : Str) : (partsOf (psOf (chS x))).length ≤ x.length + 1 ∧ ∀ r ∈ partsOf (psOf (chS x)), r.length ≤ x.length := by
  have hlen := ps_len (chS_one x)
  rw [chS_length] at hlen
  have hx : x.length = x.cps.size := rfl
  refine ⟨?_, fun r hr => ?_⟩
  · unfold partsOf; split
    · rw [List.length_append, List.length_singleton]; omega
    · omega
  · unfold partsOf at hr
    split at hr
    · rcases List.mem_append.mp hr with h | h
      · have := hlen.2.2 r h; omega
      · rw [List.mem_singleton.mp h]; omega
    · have := hlen.2.2 r hr; omega
theorem parse_len (x : Str) : (parseF x).length ≤ x.length + 1 ∧ ∀ r ∈ parseF x, r.length ≤ x.length := by
  obtain ⟨h1, h2⟩ := parts_len x
  refine ⟨by unfold parseF; rw [List.length_map]; exact h1, fun r hr => ?_⟩
  obtain ⟨y, hy, rfl⟩ := List.mem_map.mp hr
  exact Nat.le_trans (strip_le y) (h2 y hy)

def nlS : Str := Str.ofString "\n"
def nameF (items : List Str) : Str := Txt.join eS (items.map (· ++ nlS))
theorem foldl_len_le {B : Nat} : ∀ (texts : List Str) (a : Nat), (∀ t ∈ texts, t.length ≤ B) → texts.foldl (fun n t => n + t.length + eS.length) a ≤ a + texts.length * B
  | [], a, _ => by simp
  | t :: r, a, h => by
    rw [List.foldl_cons]
    have := foldl_len_le r (a + t.length + eS.length) fun x hx => h x (List.mem_cons_of_mem _ hx)
    have h1 := h t List.mem_cons_self
    have h2 : eS.length = 0 := rfl
    rw [List.length_cons, Nat.succ_mul]
    omega
theorem joinOk_of {texts : List Str} {B : Nat} (h : ∀ t ∈ texts, t.length ≤ B) (hs : texts.length * B ≤ sizeLine) : JoinOk eS texts = true := by
  unfold JoinOk Builtin.Str.tooLong
  have := foldl_len_le texts 0 h
  have e : texts.toArray.foldl (fun x1 x2 => x1 + x2.length + eS.length) 0 = texts.foldl (fun n t => n + t.length + eS.length) 0 := by simp
  rw [e]
  simp only [Bool.not_eq_true', decide_eq_false_iff_not]
  omega

section
variable {prog : Program} {w : World} {A : Around} {kp own : List (Addr × Obj)} {env : Env} {m cm : Str → Option Value} {g : Heap} {s₀ s : Shared} {Q : Flow → Shared → Prop} {E : Value → Shared → Prop} {mg mb : Str → Option Value}

theorem CallOk.post {a : Addr} {vs : List Value} {P P' : Heap → Value → Prop} (h : CallOk prog w A a vs s P) (hp : ∀ h' v, P (minus h' s.heap) v → P' (minus h' s.heap) v) : CallOk prog w A a vs s P' :=
  fun Q E c => h Q E fun v h' tk k p => c v h' tk k (hp h' v p)
theorem minus_minus {h h₁ h₀ : Heap} (k : Sub h₀ h₁) : Sub (minus h h₁) (minus (minus h h₁) h₀) := fun _ _ e => minus_get e (k.none (of_minus e).2)

/-- parse_http_list(e); what comes back is new beside B -/
theorem ev_parse {B : Heap} {e : Expr} {p pos : Pos} {x : Str} (hB : Sub B g) (G : Gd mg mb g) (hA : Aok 1 A) (hx : x.length ≤ 2 ^ 20) (h1 : Tr prog w A kp env m cm own g (eval e env) (pS x))
    (hs1 : starEach [e] env = (false, eval e env) :: starEach [] env := by rfl)
    (hl : env.kindOf (Str.ofString "parse_http_list") = some .globalImplicit := by rfl) (hg : env.globals = mainGlobals := by rfl) (hk : env.scope.kind = .function := by rfl) :
    Tr prog w A kp env m cm own g (eval (.Call (.Name (Str.ofString "parse_http_list") p) [e] [] pos) env) (fun g' v => pStrs (parseF x) (minus g' B) v) := by
  refine ev_fn (i := 1) (R := AllP [pS x]) G (by decide) rfl (args_cons (mono_S _) h1 args_nil hs1) hs1 (fun _ _ _ k h => mono_Strs _ _ _ _ (minus_mono k) h) ?_ hl hg hk
  rintro g₁ s _ a pm code doc G' fn k1 k2 ⟨u1, _, rfl, ⟨t, rfl⟩, rfl⟩
  exact (parse_ok hA G' fn hx).post fun h' v p => mono_Strs _ _ _ _ (minus_minus (hB.trans (k1.trans k2))) p
/-- ''.join(list of texts) -/
theorem ev_join {e : Expr} {k₀ : Nat} {p1 apos pos : Pos} {xs : List Str} {x : Str} (h : Tr prog w A kp env m cm own g (eval e env) (pStrs xs)) (hok : JoinOk x xs = true)
    (hbase : attributeBase (.Constant (.str x) k₀ p1) (Str.ofString "join") env (eval (.Constant (.str x) k₀ p1) env) = eval (.Constant (.str x) k₀ p1) env) (hline : (apos.endLine == pos.line) = true)
    (hs : starEach [e] env = [(false, eval e env)] := by rfl) :
    Tr prog w A kp env m cm own g (eval (.Call (.Attribute (.Constant (.str x) k₀ p1) (Str.ofString "join") apos) [e] [] pos) env) (pS (Txt.join x xs)) := by
  intro s₀ g₁ s Q E k F c
  refine Call_method1 hbase hs hline (ev_str s₀ g₁ s _ E k F fun v g' h' tk k1 k2 F' p => ?_)
  obtain ⟨t, rfl⟩ := p
  refine SB.join ((h.lift (k.trans k2)) s₀ g' _ _ E (Sub.refl _) F' fun u g'' h'' tk' k3 k4 F'' p => ?_)
  obtain ⟨vs, ⟨a, o, rfl, ho, lo⟩, hvs⟩ := p
  obtain ⟨l, rfl, hl⟩ := strsAre_values hvs
  exact ⟨a, l, rfl, lo.isList (F''.keep _ _ ho), xs, hl, hok, fun t' tk'' => c _ g'' h'' tk'' (k1.trans k3) (k2.trans k4) (F''.tok tk'') ⟨t', rfl⟩⟩
/-- d[key] = e, d of the frame's own -/
theorem x_setD {K : Type} [DecidableEq K] {knd : KeyKind prog w K} {x y : Str} {p1 p2 p3 p4 : Pos} {e : Expr} {rest : List Stmt} {d : Addr} {o : Obj} {es : List (K × Value)} {k : K} {P : Heap → Value → Prop} (F : Fm s₀ g kp env m cm ((d, o) :: own) s) (hdo : o.IsDictOf knd es) (hlen : es.length ≤ sizeLine)
    (hmP : Mono P) (he : Tr prog w A kp env m cm ((d, o) :: own) g (eval e env) P) (hx : Tr prog w A kp env m cm ((d, o) :: own) g (eval (.Name x p1) env) (pV (.ref d)))
    (hy : Tr prog w A kp env m cm ((d, o) :: own) g (eval (.Name y p2) env) (fun _ v => knd.is k v = true))
    (hsw : swapsWith e (some (.Subscript (.Name x p1) (.Name y p2) p3)) p4.line env = pure false)
    (c : ∀ v o' g' s', Sub g g' → P g' v → o'.IsDictOf knd (stored es k v) → Fm s₀ g' kp env m cm ((d, o') :: own) s' → wpAny (model prog w) A (execs rest env) Q E s') :
    wpAny (model prog w) A (execs (.Assign [.Subscript (.Name x p1) (.Name y p2) p3] e p4 :: rest) env) Q E s := by
  refine wpAny_execs_cons (wpAny_Assign_Subscript (he s₀ g s _ E (Sub.refl _) F fun v g' h' tk k1 k2 F' p => ?_) hsw)
  refine (hx.lift k2) s₀ g' _ _ E (Sub.refl _) F' fun v1 g'' h'' tk' k3 k4 F'' p1 => ?_
  refine (hy.lift (k2.trans k4)) s₀ g'' _ _ E (Sub.refl _) F'' fun v2 g3 h3 tk3 k5 k6 F3 p2 => ?_
  cases p1
  refine wpAny_setItem_pairs (knd := knd) p2 (dictOf_own (F3.ow _ List.mem_cons_self) hdo) (fun h4 hd4 hs4 => ?_) hlen
  obtain ⟨o', ho', hd'⟩ := Heap.dictOf_iff.mp hd4
  exact c v o' g3 _ (k2.trans (k4.trans k6)) (hmP _ _ _ (k4.trans k6) p) hd' (F3.change hs4 ho')
/-- key in d, d of the frame's own -/
theorem te_inD {K : Type} [DecidableEq K] {knd : KeyKind prog w K} {l r : Expr} {pos : Pos} {whole : Sem Value} {d : Addr} {o : Obj} {es : List (K × Value)} {k : K} (hd : (d == sysModules) = false) (hdo : o.IsDictOf knd es)
    (hl : Tr prog w A kp env m cm ((d, o) :: own) g (eval l env) (fun _ v => knd.is k v = true)) (hr : Tr prog w A kp env m cm ((d, o) :: own) g (eval r env) (pV (.ref d))) (hm : behindInMarks .In r = false) :
    Tr prog w A kp env m cm ((d, o) :: own) g (isTrue (.Compare l [.In] [r] pos) env whole) (pT (valueAt es k).isSome) := by
  refine te_cmp (P2 := fun a _ b => knd.is k a = true ∧ b = .ref d) hm hl (fun g₁ a k pa => (hr.lift k).post fun _ _ _ pb => ⟨pa, pb⟩) ?_
  rintro g₂ a _ kk ⟨ha, rfl⟩
  exact Tr.prim fun _ _ s Q E _ F c => wpAny_in_of (knd := knd) ha hd (dictOf_own (F.ow _ List.mem_cons_self) hdo).mapOf (c _ _ rfl)
/-- d[key], d of the frame's own -/
theorem ev_itemD {K : Type} [DecidableEq K] {knd : KeyKind prog w K} {value slice : Expr} {pos : Pos} {d : Addr} {o : Obj} {es : List (K × Value)} {k : K} {u : Value} (hdo : o.IsDictOf knd es) (hu : valueAt es k = some u)
    (h1 : Tr prog w A kp env m cm ((d, o) :: own) g (eval value env) (pV (.ref d))) (h2 : Tr prog w A kp env m cm ((d, o) :: own) g (eval slice env) (fun _ v => knd.is k v = true))
    (hs : ∀ v, knd.is k v = true → subscripted slice false (.ref d) v = operate [.ref d, v] (getItem (.ref d) v)) :
    Tr prog w A kp env m cm ((d, o) :: own) g (eval (.Subscript value slice pos) env) (pV u) := by
  refine ev_item (P2 := fun x g' b => x = .ref d ∧ knd.is k b = true) h1 (fun g₁ x k hp => (h2.lift k).post fun g' b k' hb => ⟨hp, hb⟩) ?_
  rintro g₂ _ b kk ⟨rfl, hb⟩
  refine Tr.prim fun _ g₃ s Q E k3 F c => ?_
  have hm := dictOf_own (knd := knd) (F.ow _ List.mem_cons_self) hdo
  exact tail_any hm.typeIs PySem.slot_dict_getitem.lookup (wpAny_getItem_of (knd := knd) hb hm.mapOf hu (c _ _ rfl)) (hs b hb)
/-- a place of a pair -/
theorem ev_fst {value slice : Expr} {pos : Pos} {P1 P2 : Heap → Value → Prop} (hm : Mono P1) (hm2 : Mono P2) (h1 : Tr prog w A kp env m cm own g (eval value env) (pPair P1 P2)) (h2 : Tr prog w A kp env m cm own g (eval slice env) (pI 0))
    (hs : ∀ a t, subscripted slice false (.ref a) (.int 0 t) = operate [.ref a, .int 0 t] (getItem (.ref a) (.int 0 t))) : Tr prog w A kp env m cm own g (eval (.Subscript value slice pos) env) P1 := by
  refine ev_item (P2 := fun x g' b => pPair P1 P2 g' x ∧ ∃ t, b = .int 0 t) h1 (fun g₁ x k hp => (h2.lift k).post fun g' b k' hb => ⟨mono_Pair hm hm2 _ _ _ k' hp, hb⟩) ?_
  rintro g₂ _ _ k ⟨⟨a, o, u1, u2, rfl, ho, ⟨hc, n, hd⟩, p1, p2⟩, ⟨t, rfl⟩⟩
  intro s₀ g₃ s Q E k3 F c
  have ht : IsTup s.heap a [u1, u2].toArray := ⟨o, F.keep _ _ (k3 _ _ ho), hc, n, hd⟩
  exact item_tupleT ht (by decide) (by decide) (j := 0) rfl rfl (c _ g₃ s.heap s.toks (Sub.refl _) (Sub.refl _) F (hm _ _ _ k3 p1)) (hs a t)
theorem ev_snd {value slice : Expr} {pos : Pos} {P1 P2 : Heap → Value → Prop} (hm : Mono P1) (hm2 : Mono P2) (h1 : Tr prog w A kp env m cm own g (eval value env) (pPair P1 P2)) (h2 : Tr prog w A kp env m cm own g (eval slice env) (pI 1))
    (hs : ∀ a t, subscripted slice false (.ref a) (.int 1 t) = operate [.ref a, .int 1 t] (getItem (.ref a) (.int 1 t))) : Tr prog w A kp env m cm own g (eval (.Subscript value slice pos) env) P2 := by
  refine ev_item (P2 := fun x g' b => pPair P1 P2 g' x ∧ ∃ t, b = .int 1 t) h1 (fun g₁ x k hp => (h2.lift k).post fun g' b k' hb => ⟨mono_Pair hm hm2 _ _ _ k' hp, hb⟩) ?_
  rintro g₂ _ _ k ⟨⟨a, o, u1, u2, rfl, ho, ⟨hc, n, hd⟩, p1, p2⟩, ⟨t, rfl⟩⟩
  intro s₀ g₃ s Q E k3 F c
  have ht : IsTup s.heap a [u1, u2].toArray := ⟨o, F.keep _ _ (k3 _ _ ho), hc, n, hd⟩
  exact item_tupleT ht (by decide) (by decide) (j := 1) rfl rfl (c _ g₃ s.heap s.toks (Sub.refl _) (Sub.refl _) F (hm2 _ _ _ k3 p2)) (hs a t)
end

def cntN (ts : List Str) (nm : Str) : Nat := ts.countP fun t => nameF (parseF t) == nm
structure TEnt (ts : List Str) (G : Heap) (es : List (Str × Value)) : Prop where
  ent : ∀ p ∈ es, ∃ t ∈ ts, p.1 = nameF (parseF t) ∧ pPair (pI (cntN ts p.1 : Int)) (pStrs (parseF t)) G p.2
  all : ∀ t ∈ ts, ∃ p ∈ es, p.1 = nameF (parseF t)
def pTally (prog : Program) (w : World) (ts : List Str) : Heap → Value → Prop := fun g v => ∃ a o es, v = .ref a ∧ (a == sysModules) = false ∧ g.get? a = some o ∧ o.IsDictOf (strKind prog w) es ∧ TEnt ts g es
theorem TEnt.mono {ts : List Str} {g g' : Heap} {es : List (Str × Value)} (h : TEnt ts g es) (k : Sub g g') : TEnt ts g' es :=
  ⟨fun p hp => let ⟨t, ht, e, q⟩ := h.ent p hp; ⟨t, ht, e, mono_Pair (mono_I _) (mono_Strs _) _ _ _ k q⟩, h.all⟩
theorem mono_Tally (prog : Program) (w : World) (ts : List Str) : Mono (pTally prog w ts) := fun _ _ _ k ⟨a, o, es, e, hs, ho, hd, t⟩ => ⟨a, o, es, e, hs, k _ _ ho, hd, t.mono k⟩
theorem TEnt.step {ts : List Str} {G : Heap} {es : List (Str × Value)} {t : Str} {v : Value} (h : TEnt ts G es) (hv : pPair (pI (cntN ts (nameF (parseF t)) + 1 : Int)) (pStrs (parseF t)) G v) : TEnt (ts ++ [t]) G (stored es (nameF (parseF t)) v) := by
  have hcnt : ∀ nm, cntN (ts ++ [t]) nm = cntN ts nm + if nameF (parseF t) == nm then 1 else 0 := by
    intro nm; unfold cntN; rw [List.countP_append]; simp [List.countP_cons]
  have hnew : ∃ q ∈ ts ++ [t], nameF (parseF t) = nameF (parseF q) ∧ pPair (pI (cntN (ts ++ [t]) (nameF (parseF t)) : Int)) (pStrs (parseF q)) G v := by
    refine ⟨t, by simp, rfl, ?_⟩
    rw [hcnt]; simpa using hv
  have hold : ∀ p ∈ es, p.1 ≠ nameF (parseF t) → ∃ q ∈ ts ++ [t], p.1 = nameF (parseF q) ∧ pPair (pI (cntN (ts ++ [t]) p.1 : Int)) (pStrs (parseF q)) G p.2 := by
    intro p hp hne
    obtain ⟨q, hq, e, pr⟩ := h.ent p hp
    refine ⟨q, List.mem_append_left _ hq, e, ?_⟩
    rw [hcnt, if_neg (by simpa using fun e => hne e.symm)]
    simpa using pr
  unfold PySem.stored
  cases hany : es.any (fun kv => decide (kv.1 = nameF (parseF t))) with
  | true =>
    simp only [if_true]
    constructor
    · intro p hp
      obtain ⟨q, hq, rfl⟩ := List.mem_map.mp hp
      by_cases e : q.1 = nameF (parseF t)
      · simp only [e, if_true]; exact hnew
      · simp only [e, if_false]; exact hold q hq e
    · intro u hu
      have key : ∀ nm, (∃ p ∈ es, p.1 = nm) → ∃ p ∈ es.map (fun kv => if kv.1 = nameF (parseF t) then (kv.1, v) else kv), p.1 = nm := by
        rintro nm ⟨p, hp, e⟩
        refine ⟨_, List.mem_map.mpr ⟨p, hp, rfl⟩, ?_⟩
        split <;> exact e
      rcases List.mem_append.mp hu with hu | hu
      · exact key _ (h.all u hu)
      · rw [List.mem_singleton.mp hu]
        obtain ⟨p, hp, e⟩ := List.any_eq_true.mp hany
        exact key _ ⟨p, hp, of_decide_eq_true e⟩
  | false =>
    simp only [Bool.false_eq_true, if_false]
    have hnone : ∀ p ∈ es, p.1 ≠ nameF (parseF t) := fun p hp e => by
      have := List.any_eq_false.mp hany p hp
      exact this (decide_eq_true e)
    constructor
    · intro p hp
      rcases List.mem_append.mp hp with hp | hp
      · exact hold p hp (hnone p hp)
      · rw [List.mem_singleton.mp hp]; exact hnew
    · intro u hu
      rcases List.mem_append.mp hu with hu | hu
      · obtain ⟨p, hp, e⟩ := h.all u hu
        exact ⟨p, List.mem_append_left _ hp, e⟩
      · rw [List.mem_singleton.mp hu]
        exact ⟨_, List.mem_append_right _ (List.mem_singleton.mpr rfl), rfl⟩
end Mine

namespace Mine
open PySem PySem.Calls PyProof.Rows PySem.W

theorem value_of_mem {es : List (Str × Value)} {k : Str} {u : Value} (h : valueAt es k = some u) : (k, u) ∈ es := by
  unfold valueAt at h
  cases e : es.find? (fun kv => decide (kv.1 = k)) with
  | none => rw [e] at h; cases h
  | some q =>
    rw [e] at h
    have h1 := List.mem_of_find?_eq_some e
    have h2 := List.find?_some e
    have h3 : q.1 = k := of_decide_eq_true h2
    have h4 : q.2 = u := Option.some.inj h
    rw [← h3, ← h4]; exact h1
theorem value_none {es : List (Str × Value)} {k : Str} (h : valueAt es k = none) : ∀ p ∈ es, p.1 ≠ k := by
  intro p hp e
  unfold valueAt at h
  cases e2 : es.find? (fun kv => decide (kv.1 = k)) with
  | none => exact List.find?_eq_none.mp e2 p hp (decide_eq_true e)
  | some q => rw [e2] at h; cases h

theorem dict_len {prog : Program} {w : World} {o : Obj} {ts : List Str} {G : Heap} {es : List (Str × Value)} (d : o.IsDictOf (strKind prog w) es) (t : TEnt ts G es) : es.length ≤ ts.length := by
  obtain ⟨_, _, _, _, _, _, hn⟩ := d
  have := hn.length_le_of_subset (l₂ := ts.map fun t => nameF (parseF t)) (fun k hk => by
    obtain ⟨p, hp, rfl⟩ := List.mem_map.mp hk
    obtain ⟨q, hq, e, _⟩ := t.ent p hp
    exact List.mem_map.mpr ⟨q, hq, e.symm⟩)
  simpa using this

set_option maxHeartbeats 4000000 in
theorem tally_ok {prog : Program} {w : World} {A : Around} {s : Shared} {mg mb : Str → Option Value} {a : Addr} {pm code doc : Value} {v1 : Value} {ts : List Str}
    (hA : Aok 2 A) (G : Gd mg mb s.heap) (fn : FnAt mg s.heap 6 a pm code doc) (hsz : ts.length ≤ 2 ^ 20) (hlen : ∀ t ∈ ts, t.length ≤ 2 ^ 10) (h1 : pStrs ts s.heap v1) :
    CallOk prog w A a [v1] s (pTally prog w ts) := by
  refine call_enter fn (by have := hA.depth; omega) G.nolimit (binds := [(Str.ofString "texts", v1)]) rfl rfl (by decide) rfl rfl rfl ?_
  intro s₁ F E'
  have hA1 : Aok 1 (A.deeper (envF 6 pm code doc s.heap.objs.size a)) := hA.deeper (k := 1) (envF 6 pm code doc s.heap.objs.size a)
  have hAd := hA1.hand
  have hS : (2 : Nat) ^ 22 ≤ sizeLine := by decide
  refine x_new F (x := Str.ofString "tally") (Shape := fun a o => (a == sysModules) = false ∧ o.IsDictOf (strKind prog w) []) (st_local rfl rfl) (Tr.alloc (mono_new _ _) fun _ g₂ s' Q E k3 F' c => wpAny_Dict_empty ?_) rfl ?_
  · have hgs : Sub s.heap s'.heap := k3.trans F'.keep
    have hd : (s'.heap.push { cls := .type "dict", data := .dict #[] }).DictOf (strKind prog w) s'.heap.objs.size [] := Heap.DictOf.new s'.heap
    obtain ⟨o', ho', hd''⟩ := Heap.dictOf_iff.mp hd
    exact c _ _ s'.toks (Sub.push _ _) ⟨_, o', rfl, minus_get ho' (get?_size _), fresh_size hgs, big_heap G.g hgs, hd''⟩
  rintro d o g₁ s₂ ⟨hd, hdo⟩ k1 F1
  refine x_for (J := fun i g' m' _ own' => m' (Str.ofString "tally") = some (.ref d) ∧ ∃ o' es, own' = [(d, o')] ∧ o'.IsDictOf (strKind prog w) es ∧ TEnt (ts.take i) (minus g' s.heap) es) (JB := fun _ _ _ _ => False)
    F1 (n := ts.length) (P := fun i u => ∃ y t, ts[i]? = some y ∧ u = .str y t) (Pv := pStrs ts) (ev_LP (v := v1) rfl (mono_Strs _ _ _ _ k1 h1) (mono_Strs _)) (fun g' v k h => itr_strs hAd h) (st_local rfl rfl) ?_ ?_ ?_ ?_
  · intro g' k
    exact ⟨rfl, o, [], rfl, hdo, fun _ h => (nomatch h), fun _ h => nomatch h⟩
  · rintro kp' i _ g₂ m₂ cm₂ own₂ s₃ E3 hi kk2 ⟨y, ty, hy, rfl⟩ ⟨hm1, o', es, rfl, hdo', hT⟩ F2
    have kg2 : Sub s.heap g₂ := k1.trans kk2
    have hyl := hlen y (List.mem_of_getElem? hy)
    have hpl := parse_len y
    have m1 : fmU (Str.ofString "text") m₂ (.str y ty) (Str.ofString "tally") = some (.ref d) := by simp [fmU, upd, ofS_inj, hm1]
    have m2 : fmU (Str.ofString "text") m₂ (.str y ty) (Str.ofString "text") = some (.str y ty) := by simp [fmU, upd]
    generalize fmU (Str.ofString "text") m₂ (.str y ty) = m₃ at *
    -- items
    refine x_assign F2 (x := Str.ofString "items") (st_local rfl rfl) (ev_parse (B := s.heap) (x := y) kg2 (G.keeps kg2) hA1 (by omega) (ev_LS m2)) rfl ?_
    intro vi g₃ s₄ k3 pi F3
    have kg3 := kg2.trans k3
    have m3 : fmU (Str.ofString "items") m₃ vi (Str.ofString "tally") = some (.ref d) := by simp [fmU, upd, ofS_inj, m1]
    have m4 : fmU (Str.ofString "items") m₃ vi (Str.ofString "items") = some vi := by simp [fmU, upd]
    generalize fmU (Str.ofString "items") m₃ vi = m₄ at *
    have pi' : pStrs (parseF y) g₃ vi := mono_Strs _ _ _ _ (minus_sub _ _) pi
    -- name
    refine x_assign F3 (x := Str.ofString "name") (st_local rfl rfl) (P := pS (nameF (parseF y))) (ev_join (x := eS) (xs := (parseF y).map (· ++ nlS)) ?_ ?_ rfl rfl) rfl ?_
    · refine ev_comp (cl := []) (fun _ => true) (fun v u => ∃ x t t', v = Value.str x t ∧ u = Value.str (x ++ nlS) t') rfl (by decide) rfl (by decide) rfl (fun _ h => (nomatch h)) (by simp)
        (n := (parseF y).length) (P := fun i u => ∃ z t, (parseF y)[i]? = some z ∧ u = .str z t) (Pv := pStrs (parseF y)) (ev_LP m4 pi' (mono_Strs _)) (fun g' v k h => itr_strs hAd h) (by omega) ?_ ?_ ?_ ?_
      · intro C m₅ l v g' k hP hm
        exact tr_tests0
      · rintro C m₅ l v g' k ⟨z, tz, hz, rfl⟩ _ hm
        have hzl := hpl.2 z (List.mem_of_getElem? hz)
        have hn1 : nlS.length = 1 := rfl
        refine (ev_addS (x := z) (y := nlS) (by omega) (ev_LS (t := tz) hm) ev_str).post ?_
        rintro _ _ _ ⟨u, rfl⟩
        exact ⟨z, tz, u, rfl, rfl⟩
      · intro g' D oD us ys k hD hDn lo hlen' hP hpair
        rw [List.filter_eq_self.mpr (fun _ _ => rfl)] at hpair
        exact ⟨ys, ⟨D, oD, rfl, hD, lo⟩, strs_map (f := (· ++ nlS)) (strs_of_at hlen' hP) hpair⟩
      · intro x; rfl
    · refine joinOk_of (B := 2 ^ 11) (fun t ht => ?_) ?_
      · obtain ⟨z, hz, rfl⟩ := List.mem_map.mp ht
        have := hpl.2 z hz
        have hn1 : nlS.length = 1 := rfl
        rw [Str.length_append]; omega
      · rw [List.length_map]
        have h3 : (parseF y).length ≤ 2 ^ 11 := by omega
        have h4 : (2 : Nat) ^ 11 * 2 ^ 11 ≤ sizeLine := by decide
        exact Nat.le_trans (Nat.mul_le_mul_right _ h3) h4
    rintro _ g₄ s₅ k4 ⟨tn, rfl⟩ F4
    have kg4 := kg3.trans k4
    have m5 : fmU (Str.ofString "name") m₄ (.str (nameF (parseF y)) tn) (Str.ofString "tally") = some (.ref d) := by simp [fmU, upd, ofS_inj, m3]
    have m6 : fmU (Str.ofString "name") m₄ (.str (nameF (parseF y)) tn) (Str.ofString "items") = some vi := by simp [fmU, upd, ofS_inj, m4]
    have m7 : fmU (Str.ofString "name") m₄ (.str (nameF (parseF y)) tn) (Str.ofString "name") = some (.str (nameF (parseF y)) tn) := by simp [fmU, upd]
    generalize fmU (Str.ofString "name") m₄ (.str (nameF (parseF y)) tn) = m₅ at *
    have hT4 : TEnt (ts.take i) (minus g₄ s.heap) es := hT.mono (minus_mono (k3.trans k4))
    have evn : ∀ {p : Pos}, Tr prog w (A.deeper (envF 6 pm code doc s.heap.objs.size a)) kp' (envF 6 pm code doc s.heap.objs.size a) m₅ (fmI (fmI (fmI cm₂ (.str y ty)) vi) (.str (nameF (parseF y)) tn)) [(d, o')] g₄ (eval (.Name (Str.ofString "name") p) (envF 6 pm code doc s.heap.objs.size a)) (fun _ v => (strKind prog w).is (nameF (parseF y)) v = true) :=
      fun {p} => (ev_L m7).post fun _ _ _ h => by cases h; exact strKind_is prog w _ tn
    -- times
    refine x_assign F4 (x := Str.ofString "times") (st_local rfl rfl) (P := pI (cntN (ts.take i) (nameF (parseF y)) : Int)) (ev_if (te_inD (knd := strKind prog w) hd hdo' evn (ev_L m5) rfl) ?_ ?_) rfl ?_
    · intro hb
      obtain ⟨u, hu⟩ := Option.isSome_iff_exists.mp hb
      obtain ⟨q, hq, e, pr⟩ := hT4.ent _ (value_of_mem hu)
      refine ev_fst (P2 := pStrs (parseF q)) (mono_I _) (mono_Strs _) ((ev_itemD (knd := strKind prog w) hdo' hu (ev_L m5) evn (fun v hv => ?_)).post fun g' v k h => ?_) ev_int (fun _ _ => rfl)
      · obtain ⟨t, rfl⟩ := Value.isStrOf_shape hv; rfl
      · cases h
        exact mono_Pair (mono_I _) (mono_Strs _) _ _ _ ((minus_sub _ _).trans k) pr
    · intro hb
      have hnone : valueAt es (nameF (parseF y)) = none := by
        cases e : valueAt es (nameF (parseF y)) with
        | none => rfl
        | some u => rw [e] at hb; cases hb
      have h0 : cntN (ts.take i) (nameF (parseF y)) = 0 := by
        unfold cntN
        rw [List.countP_eq_zero]
        intro t ht e
        obtain ⟨p, hp, e2⟩ := hT4.all t ht
        exact value_none hnone p hp (e2.trans (beq_iff_eq.mp e))
      rw [h0]; exact ev_int
    rintro _ g₅ s₆ k5 ⟨tt, rfl⟩ F5
    have kg5 := kg4.trans k5
    -- the store
    have hlen5 := dict_len hdo' hT
    have hil : (ts.take i).length ≤ 2 ^ 20 := Nat.le_trans (by rw [List.length_take]; exact Nat.min_le_right _ _) hsz
    refine x_setD (knd := strKind prog w) (k := nameF (parseF y)) F5 hdo' (by omega) (P := fun g' v => pPair (pI (cntN (ts.take i) (nameF (parseF y)) + 1 : Int)) (pStrs (parseF y)) (minus g' s.heap) v)
      (fun _ _ _ k h => mono_Pair (mono_I _) (mono_Strs _) _ _ _ (minus_mono k) h) ?_ (ev_L (by simp [fmU, upd, ofS_inj, m5])) ((ev_L (v := .str (nameF (parseF y)) tn) (by simp [fmU, upd, ofS_inj, m7])).post fun _ _ _ h => by cases h; exact strKind_is prog w _ tn) rfl ?_
    · intro s₀ ga sa Q E ka Fa c
      refine wpAny_Tuple ((args_cons (Ps := [pV vi]) (mono_I (cntN (ts.take i) (nameF (parseF y)) + 1 : Int)) (ev_add (ev_LI (t := tt) (by simp [fmU, upd])) ev_int) (args_cons (mono_V _) (ev_L (by simp [fmU, upd, ofS_inj, m6])) args_nil rfl) rfl) s₀ ga sa _ E ka Fa fun us g' h' tk kb kc Fb pr => ?_)
      obtain ⟨u1, _, rfl, p1, u2, _, rfl, e2, rfl⟩ := pr
      obtain rfl : vi = u2 := Eq.symm e2
      refine ⟨by simp; omega, ?_⟩
      obtain ⟨g'', Fc, kd, hnew⟩ := Fb.growN (tk := tk) (Sub.push h' { cls := .type "tuple", data := .seq [u1, vi].toArray })
      have hsg : s.heap.get? h'.objs.size = none := (kg5.trans (ka.trans kc)).none (fresh_size Fb.keep)
      refine c _ g'' _ tk (kb.trans (Sub.push _ _)) (kc.trans kd) Fc ⟨_, _, u1, vi, rfl, minus_get (hnew _ _ (get?_size h') (Heap.get?_push_size _ rfl)) hsg, ⟨rfl, _, rfl⟩, p1, ?_⟩
      exact mono_Strs _ _ _ _ (minus_mono (k4.trans (k5.trans (ka.trans (kc.trans kd))))) pi
    · intro v o6 g₆ s₇ k6 pv hdo6 F6
      refine x_nil ⟨g₆, _, _, _, k3.trans (k4.trans (k5.trans k6)), ⟨by simp [fmU, upd, ofS_inj, m5], o6, _, rfl, hdo6, ?_⟩, F6⟩
      have e : ts.take (i + 1) = ts.take i ++ [y] := by rw [List.take_add_one, hy]; rfl
      rw [e]
      exact (hT4.mono (minus_mono (k5.trans k6))).step pv
  · rintro g₂ m₂ cm₂ own₂ s₃ kk2 (⟨hm1, o', es, rfl, hdo', hT⟩ | h) F2
    · rw [List.take_length] at hT
      refine x_ret F2 (ev_L hm1) ?_
      rintro _ g₃ s₄ k3 rfl F3
      obtain ⟨h', tk, rfl⟩ := F3.same
      have kg := k1.trans (kk2.trans k3)
      exact ⟨_, h', tk, rfl, rfl, kg.trans F3.keep, d, o', es, rfl, hd, minus_get (F3.ow _ List.mem_cons_self) (kg.none (F3.hid _ (mem_hidden_own (p := (d, o')) List.mem_cons_self))), hdo', hT.mono (minus_mono (k3.trans F3.keep))⟩
    · exact h.elim
  · intro x; rfl
end Mine

namespace Mine
open PySem PySem.Calls PyProof.Rows PySem.W

section
variable {prog : Program} {w : World} {A : Around} {kp own : List (Addr × Obj)} {env : Env} {m cm : Str → Option Value} {g : Heap} {s₀ s : Shared} {Q : Flow → Shared → Prop} {E : Value → Shared → Prop} {mg mb : Str → Option Value}

theorem ev_cmp {l r : Expr} {op : CmpOp} {pos : Pos} {P : Heap → Value → Prop} {P2 : Value → Heap → Value → Prop} {R : Heap → Value → Prop} (hm : behindInMarks op r = false)
    (hl : Tr prog w A kp env m cm own g (eval l env) P) (hr : ∀ g₁ a, Sub g g₁ → P g₁ a → Tr prog w A kp env m cm own g₁ (eval r env) (P2 a))
    (hop : ∀ g₂ a c, Sub g g₂ → P2 a g₂ c → Tr prog w A kp env m cm own g₂ (compareOp op a c) R) : Tr prog w A kp env m cm own g (eval (.Compare l [op] [r] pos) env) R :=
  Tr.three (fun _ _ _ h => wpAny_Compare1 h hm) hl hr hop
theorem ev_eqI {l r : Expr} {pos : Pos} {a b : Int} (hl : Tr prog w A kp env m cm own g (eval l env) (pI a)) (hr : Tr prog w A kp env m cm own g (eval r env) (pI b)) (hm : behindInMarks .Eq r = false) :
    Tr prog w A kp env m cm own g (eval (.Compare l [.Eq] [r] pos) env) (pB (a == b)) := by
  refine ev_cmp (P2 := fun x _ y => pI a g x ∧ pI b g y) hm hl (fun g₁ x k hx => (hr.lift k).post fun _ y _ hy => ⟨hx, hy⟩) ?_
  rintro g₂ _ _ k ⟨⟨t, rfl⟩, ⟨u, rfl⟩⟩
  exact Tr.prim fun _ _ s Q E _ _ cc => eq_int (cc _ s.toks rfl)
/-- x and y, both bools -/
theorem ev_and {x y : Expr} {pos : Pos} {a b : Bool} (hx : Tr prog w A kp env m cm own g (eval x env) (pB a)) (hy : a = true → Tr prog w A kp env m cm own g (eval y env) (pB b)) :
    Tr prog w A kp env m cm own g (eval (.BoolOp .And [x, y] pos) env) (pB (a && b)) := by
  intro s₀ g₁ s Q E k F c
  refine wpAny_And2 (hx s₀ g₁ s _ E k F fun v g' h' tk k1 k2 F' p => ?_)
  cases p
  refine wpAny_truthy_bool ?_
  cases a with
  | false => exact c _ g' h' tk k1 k2 F' rfl
  | true =>
    simp only [if_true]
    refine ((hy rfl).lift (k.trans k2)) s₀ g' _ _ E (Sub.refl _) F' fun b' g'' h'' tk' k3 k4 F'' p => c b' g'' h'' tk' (k1.trans k3) (k2.trans k4) F'' ?_
    cases p; rfl
theorem ev_andT {x y : Expr} {pos : Pos} {b : Bool} (hx : Tr prog w A kp env m cm own g (eval x env) (pB true)) (hy : Tr prog w A kp env m cm own g (eval y env) (pB b)) :
    Tr prog w A kp env m cm own g (eval (.BoolOp .And [x, y] pos) env) (pB b) := by
  have := ev_and (pos := pos) hx fun _ => hy
  rwa [Bool.true_and] at this
/-- e == list(e') of the same list -/
theorem ev_eqList {x : Str} {pos p1 p2 pos2 : Pos} {a : Addr} {o : Obj} {vs : List Value} (G : Gd mg mb g) (hA : Aok 1 A) (ho : g.get? a = some o) (lo : LObj o vs) (hsz : vs.length ≤ sizeLine)
    (hl : Tr prog w A kp env m cm own g (eval (.Name x p1) env) (pV (.ref a))) (hl2 : Tr prog w A kp env m cm own g (eval (.Name x p2) env) (pV (.ref a)))
    (hs : starEach [.Name x p2] env = [(false, eval (.Name x p2) env)] := by rfl) (hg : env.globals = mainGlobals := by rfl) (hb : env.builtins = builtinsNs := by rfl)
    (hll : env.kindOf (Str.ofString "list") = some .globalImplicit := by rfl) (hk : env.scope.kind = .function := by rfl) {p3 : Pos} :
    Tr prog w A kp env m cm own g (eval (.Compare (.Name x p1) [.Eq] [.Call (.Name (Str.ofString "list") p3) [.Name x p2] [] pos2] pos) env) (pB true) := by
  refine ev_cmp (P2 := fun u g' v => u = .ref a ∧ ∃ b o', v = .ref b ∧ g'.get? b = some o' ∧ LObj o' vs) rfl hl (fun g₁ u k hu => ?_) ?_
  · refine ev_callT (R := AllP [pV (.ref a)]) (ev_biG (G.keeps k) (by simp) boot_list hg hb hll hk) (args_cons (mono_V _) (hl2.lift k) args_nil (by rw [hs]; rfl)) (by rw [hs]; rfl) (by rw [hs]; rfl) ?_
    rintro g₂ _ k2 ⟨_, _, rfl, rfl, rfl⟩
    refine Tr.alloc (P := fun g' v => u = Value.ref a ∧ ∃ b o', v = Value.ref b ∧ g'.get? b = some o' ∧ LObj o' vs) (fun _ _ _ k h => ⟨h.1, let ⟨b, o', e, h1, h2⟩ := h.2; ⟨b, o', e, k _ _ h1, h2⟩⟩) fun _ g₃ s Q E k3 F c => ?_
    have hlo := lo
    obtain ⟨hc, hdn, n, hd⟩ := hlo
    refine call_list_seq a (.inl rfl) (F.keep _ _ (k3 _ _ (k2 _ _ (k _ _ ho)))) hc hd (fun h' c' hk' hnew => ?_) (by simpa using hsz)
    exact c _ h' s.toks hk' ⟨hu, _, _, rfl, minus_get hnew (get?_size _), rfl, rfl, _, rfl⟩
  · rintro g₂ _ _ k ⟨rfl, b, o', rfl, ho', lo'⟩
    refine Tr.prim fun _ g₃ s Q E k3 F c => ?_
    refine SeqAt.eq_listAt (e := fun _ => true) (lo.isList (F.keep _ _ (k3 _ _ (k _ _ ho)))) (lo'.isList (F.keep _ _ (k3 _ _ ho'))) rfl (by have := hA.units; omega) (fun j h1 h2 => SeqAt.EqAt.same _) ?_
    have : (List.range vs.toArray.size).all (fun _ => true) = true := by simp
    rw [this]
    exact c _ s.toks rfl
theorem ev_ints0 {pos : Pos} : Tr prog w A kp env m cm own g (eval (.List [] pos) env) (pInts (toZ [])) := by
  refine ev_list (Ps := []) args_nil ?_ ?_
  · rintro g' _ rfl; exact (by decide : 0 ≤ sizeLine)
  · rintro g' _ rfl g'' b _ e
    exact ⟨_, ⟨b, _, rfl, e, rfl, rfl, _, rfl⟩, .nil⟩

theorem ev_nexts {sg : List Str} {free : List Nat} {e1 e2 : Expr} {p pos : Pos} (G : Gd mg mb g) (hA : Aok 1 A) (hsz : sg.length ≤ 2 ^ 20)
    (h1 : Tr prog w A kp env m cm own g (eval e1 env) (pStrs sg)) (h2 : Tr prog w A kp env m cm own g (eval e2 env) (pInts (toZ free)))
    (hs1 : starEach [e1, e2] env = (false, eval e1 env) :: starEach [e2] env := by rfl) (hs2 : starEach [e2] env = (false, eval e2 env) :: starEach [] env := by rfl)
    (hl : env.kindOf (Str.ofString "_law_nexts") = some .globalImplicit := by rfl) (hg : env.globals = mainGlobals := by rfl) (hk : env.scope.kind = .function := by rfl) :
    Tr prog w A kp env m cm own g (eval (.Call (.Name (Str.ofString "_law_nexts") p) [e1, e2] [] pos) env) (pNx (nextsF free sg.length)) := by
  refine ev_fn (i := 4) (R := AllP [pStrs sg, pInts (toZ free)]) G (by decide) rfl (args_cons (mono_Strs _) h1 (args_cons (mono_Ints _) h2 args_nil hs2) hs1) hs1 (mono_Nx _) ?_ hl hg hk
  rintro g₁ s _ a pm code doc G' fn k1 k2 ⟨u1, _, rfl, q1, u2, _, rfl, q2, rfl⟩
  exact nexts_ok hA G' fn hsz (mono_Strs _ _ _ _ k2 q1) (mono_Ints _ _ _ _ k2 q2)
theorem ev_writings {sg items : List Str} {nx : List (List Nat)} {e1 e2 e3 : Expr} {p pos : Pos} (G : Gd mg mb g) (hA : Aok 2 A) (hn : NxOk sg nx) (hrow : ∀ i, (nxA nx i).Nodup) (hpos : 0 < nx.length) (hil : items.length ≤ 2 ^ 20)
    (h1 : Tr prog w A kp env m cm own g (eval e1 env) (pStrs sg)) (h2 : Tr prog w A kp env m cm own g (eval e2 env) (pNx nx)) (h3 : Tr prog w A kp env m cm own g (eval e3 env) (pStrs items))
    (hs1 : starEach [e1, e2, e3] env = (false, eval e1 env) :: starEach [e2, e3] env := by rfl) (hs2 : starEach [e2, e3] env = (false, eval e2 env) :: starEach [e3] env := by rfl) (hs3 : starEach [e3] env = (false, eval e3 env) :: starEach [] env := by rfl)
    (hl : env.kindOf (Str.ofString "_law_writings") = some .globalImplicit := by rfl) (hg : env.globals = mainGlobals := by rfl) (hk : env.scope.kind = .function := by rfl) :
    Tr prog w A kp env m cm own g (eval (.Call (.Name (Str.ofString "_law_writings") p) [e1, e2, e3] [] pos) env) (pI (writF sg nx items)) := by
  refine ev_fn (i := 11) (R := AllP [pStrs sg, pNx nx, pStrs items]) G (by decide) rfl (args_cons (mono_Strs _) h1 (args_cons (mono_Nx _) h2 (args_cons (mono_Strs _) h3 args_nil hs3) hs2) hs1) hs1 (mono_I _) ?_ hl hg hk
  rintro g₁ s _ a pm code doc G' fn k1 k2 ⟨u1, _, rfl, q1, u2, _, rfl, q2, u3, _, rfl, q3, rfl⟩
  exact writings_ok hA G' fn hn hrow hpos hil (mono_Strs _ _ _ _ k2 q1) (mono_Nx _ _ _ _ k2 q2) (mono_Strs _ _ _ _ k2 q3)
end

def joinF (sg : List Str) : Str := Txt.join eS sg
theorem alone_ok {prog : Program} {w : World} {A : Around} {s : Shared} {mg mb : Str → Option Value} {a : Addr} {pm code doc : Value} {v1 : Value} {sg : List Str}
    (hA : Aok 3 A) (G : Gd mg mb s.heap) (fn : FnAt mg s.heap 12 a pm code doc) (hn : NxOk sg (nextsF [] sg.length)) (hrow : ∀ i, (nxA (nextsF [] sg.length) i).Nodup) (hpos : 0 < (nextsF [] sg.length).length)
    (hsz : sg.length ≤ 12) (hone : ∀ x ∈ sg, x.length ≤ 1) (hj : (joinF sg).length ≤ 2 ^ 10) (h1 : pStrs sg s.heap v1) :
    CallOk prog w A a [v1] s (pB (writF sg (nextsF [] sg.length) (parseF (joinF sg)) == 1)) := by
  refine call_enter fn (by have := hA.depth; omega) G.nolimit (binds := [(Str.ofString "signs", v1)]) rfl rfl (by decide) rfl rfl rfl ?_
  intro s₁ F E'
  have hA2 : Aok 2 (A.deeper (envF 12 pm code doc s.heap.objs.size a)) := hA.deeper (k := 2) (envF 12 pm code doc s.heap.objs.size a)
  have hA1 := hA2.mono (j := 1) (by decide)
  have hAd := hA1.hand
  have hpl := parse_len (joinF sg)
  have hS : (2 : Nat) ^ 22 ≤ sizeLine := by decide
  have hjok : JoinOk eS sg = true := joinOk_of (B := 1) hone (by omega)
  refine x_assign F (x := Str.ofString "items") (st_local rfl rfl) (ev_parse (B := s.heap) (x := joinF sg) (Sub.refl _) G hA1 (by omega) (ev_join (ev_LP (v := v1) rfl h1 (mono_Strs _)) hjok rfl rfl)) rfl ?_
  intro vi g₁ s₂ k1 pi F1
  have pi' := mono_Strs _ _ _ _ (minus_sub _ _) pi
  have pi2 := pi'
  obtain ⟨vs, ⟨b, ob, rfl, hb, lo⟩, hvs⟩ := pi2
  have hlv := hvs.len_eq
  refine x_ret F1 (P := pB (writF sg (nextsF [] sg.length) (parseF (joinF sg)) == 1)) ?_ ?_
  · refine ev_andT (ev_eqList (G.keeps k1) hA1 hb lo (by omega) (ev_L (by simp [fmU, upd])) (ev_L (by simp [fmU, upd])))
      (ev_eqI (ev_writings (G.keeps k1) hA2 hn hrow hpos (by omega) (ev_LP (v := v1) (by simp [fmU, upd, ofS_inj]; rfl) (mono_Strs _ _ _ _ k1 h1) (mono_Strs _)) (ev_nexts (free := []) (G.keeps k1) hA1 (by omega) (ev_LP (v := v1) (by simp [fmU, upd, ofS_inj]; rfl) (mono_Strs _ _ _ _ k1 h1) (mono_Strs _)) ev_ints0)
        (ev_LP (v := .ref b) (by simp [fmU, upd]) pi' (mono_Strs _))) ev_int rfl)
  · rintro v g₂ s₃ k2 rfl F2
    obtain ⟨h', tk, rfl⟩ := F2.same
    exact ⟨_, h', tk, rfl, rfl, (k1.trans k2).trans F2.keep, rfl⟩
end Mine

namespace Mine
open PySem PySem.Calls PyProof.Rows PySem.W

section
variable {prog : Program} {w : World} {A : Around} {kp own : List (Addr × Obj)} {env : Env} {m cm : Str → Option Value} {g : Heap} {s₀ s : Shared} {Q : Flow → Shared → Prop} {E : Value → Shared → Prop} {mg mb : Str → Option Value}

theorem x_unpack2 {x y : Str} {p1 p2 tpos pos : Pos} {k₀ : Nat} {e : Expr} {rest : List Stmt} {P1 P2 : Heap → Value → Prop} {fm fc fm' fc' : (Str → Option Value) → Value → (Str → Option Value)} (F : Fm s₀ g kp env m cm own s) (hh : A.handled = none)
    (hst : StoreTo env x fm fc) (hst' : StoreTo env y fm' fc') (hev : Tr prog w A kp env m cm own g (eval e env) (pPair P1 P2))
    (he : (assignEach [.Name x p1, .Name y p2] env).map (·.2) = [assign (.Name x p1) env, assign (.Name y p2) env]) (hn : (assignEach [.Name x p1, .Name y p2] env).length = 2) (hstar : (assignEach [.Name x p1, .Name y p2] env).findIdx? (·.1) = none)
    (hs : swapsWithSole [.Tuple [.Name x p1, .Name y p2] k₀ tpos] e pos.line env = pure false) (hw : swappedStores [.Tuple [.Name x p1, .Name y p2] k₀ tpos] e env = pure none)
    (c : ∀ u1 u2 g' s', Sub g g' → P1 g' u1 → P2 g' u2 → Fm s₀ g' kp env (fm' (fm m u1) u2) (fc' (fc cm u1) u2) own s' → wpAny (model prog w) A (execs rest env) Q E s') :
    wpAny (model prog w) A (execs (.Assign [.Tuple [.Name x p1, .Name y p2] k₀ tpos] e pos :: rest) env) Q E s := by
  refine wpAny_execs_cons (Assign_Tuple (hev s₀ g s _ E (Sub.refl _) F fun v g' h' tk k1 k2 F' pr => ?_) hs hw)
  obtain ⟨a, o, u1, u2, rfl, ho, ⟨hc, n, hd⟩, q1, q2⟩ := pr
  refine wpAny_assign_Tuple (items := #[u1, u2]) hh ⟨o, F'.keep _ _ ho, hc, n, hd⟩ hn hstar fun h'' hext => ?_
  have hsub : Sub h' h'' := fun b q e => hext b q (fun e2 => by rw [e2] at e; exact absurd (Heap.lt_size e) (Nat.lt_irrefl _)) e
  rw [he]
  have F2 := F'.step (tk := tk) hsub
  show wpAny _ _ (do holding [u2] (assign (.Name x p1) env u1); assignInOrder [assign (.Name y p2) env] [u2]) _ _ _
  refine wpAny_bind (wpAny_holding (wpAny_assign_Name (hst.run F2 fun h3 tk3 F3 => ?_)))
  show wpAny _ _ (do holding [] (assign (.Name y p2) env u2); assignInOrder [] []) _ _ _
  refine wpAny_bind (wpAny_holding (wpAny_assign_Name (hst'.run F3 fun h4 tk4 F4 => ?_)))
  show wpAny _ _ (pure ()) _ _ _
  exact wpAny_pure (c u1 u2 g' _ k2 q1 q2 F4)
theorem ev_from {value e : Expr} {p pos : Pos} {xs : List Str} {b : Nat} (h1 : Tr prog w A kp env m cm own g (eval value env) (pStrs xs)) (h2 : Tr prog w A kp env m cm own g (eval e env) (pI (b : Int))) (hb : b ≤ xs.length) (hsz : xs.length ≤ sizeLine)
    (ht : ∀ o r, letTemporaryGo value o r = pure ()) : Tr prog w A kp env m cm own g (eval (.Subscript value (.Slice (some e) none none p) pos) env) (pStrs (xs.drop b)) := by
  intro s₀ g₁ s Q E k F c
  refine wpAny_Subscript_list_slice (h1 s₀ g₁ s _ E k F fun v g' h' tk k1 k2 F' pv => ?_) ht
  obtain ⟨vs, ⟨a, o, rfl, ho, lo⟩, hi⟩ := pv
  show wpAny _ _ (eval e env) _ _ _
  refine (h2.lift (k.trans k2)) s₀ g' _ _ E (Sub.refl _) F' fun v2 g'' h'' tk' k3 k4 F'' p2 => ?_
  obtain ⟨t, rfl⟩ := p2
  show wpAny _ _ (pure Value.none : Sem Value) _ _ _
  refine wpAny_pure ?_
  have hl' : h''.IsList a vs.toArray := lo.isList ((k4.trans F''.keep) _ _ ho)
  refine ⟨a, vs.toArray, some (b : Int), none, rfl, hl', by simpa [hi.len_eq] using hsz, .int _ _, .none, ?_⟩
  have kp1 := Sub.push h'' { cls := .type "slice", data := .fields #[.int (b : Int) t, .none, .none] }
  have kp2 := Sub.push (h''.push { cls := .type "slice", data := .fields #[.int (b : Int) t, .none, .none] }) { cls := .type "list", data := .seq (slicePick vs.toArray (some (b : Int)) none none) }
  obtain ⟨g3, F3, k5, hn⟩ := F''.growN (tk := tk') (kp1.trans kp2)
  have hsize : (h''.push { cls := .type "slice", data := .fields #[.int (b : Int) t, .none, .none] }).objs.size = h''.objs.size + 1 := Heap.size_push _ _
  refine c _ g3 _ tk' (k1.trans (k3.trans (kp1.trans kp2))) (k2.trans (k4.trans k5)) F3 ⟨vs.drop b, ⟨h''.objs.size + 1, _, rfl, hn (h''.objs.size + 1) _ ?_ (hsize ▸ Heap.get?_push_size _ rfl), rfl, rfl, 0, ?_⟩, hi.drop' b⟩
  · cases e : h''.get? (h''.objs.size + 1) with
    | none => rfl
    | some o =>
      have hlt : h''.objs.size + 1 < h''.objs.size := Heap.lt_size e
      exact absurd hlt (Nat.not_lt.mpr (Nat.le_succ _))
  · show Data.seq _ 0 = Data.seq _ 0
    rw [slicePick_from _ b (by simpa [hi.len_eq] using hb)]
/-- d[key], d frozen -/
theorem ev_itemF {K : Type} [DecidableEq K] {knd : KeyKind prog w K} {value slice : Expr} {pos : Pos} {a : Addr} {o : Obj} {es : List (K × Value)} {k : K} {u : Value} (ho : g.get? a = some o) (hdo : o.IsDictOf knd es) (hu : valueAt es k = some u)
    (h1 : Tr prog w A kp env m cm own g (eval value env) (pV (.ref a))) (h2 : Tr prog w A kp env m cm own g (eval slice env) (fun _ v => knd.is k v = true))
    (hs : ∀ v, knd.is k v = true → subscripted slice false (.ref a) v = operate [.ref a, v] (getItem (.ref a) v)) :
    Tr prog w A kp env m cm own g (eval (.Subscript value slice pos) env) (pV u) := by
  refine ev_item (P2 := fun x g' b => x = .ref a ∧ knd.is k b = true) h1 (fun g₁ x k hp => (h2.lift k).post fun g' b k' hb => ⟨hp, hb⟩) ?_
  rintro g₂ _ b kk ⟨rfl, hb⟩
  refine Tr.prim fun _ g₃ s Q E k3 F c => ?_
  have hm := dictOf_own (knd := knd) (F.keep _ _ (k3 _ _ (kk _ _ ho))) hdo
  exact tail_any hm.typeIs PySem.slot_dict_getitem.lookup (wpAny_getItem_of (knd := knd) hb hm.mapOf hu (c _ _ rfl)) (hs b hb)

theorem ev_tallyItem {p q r : Pos} {b c : Addr} {o : Obj} {es : List (Str × Value)} {nm : Str} {t : Tok} {x : Value} {n : Int} {ys : List Str} (ho : g.get? b = some o) (hdo : o.IsDictOf (strKind prog w) es) (hx : valueAt es nm = some x)
    (c6 : cm (Str.ofString "tally") = some (.ref b)) (hc : env.cells.lookup (Str.ofString "tally") = some c) (hm : m (Str.ofString "name") = some (.str nm t)) (pr : pPair (pI n) (pStrs ys) g x)
    (h1 : env.kindOf (Str.ofString "tally") = some .cell := by rfl) (h2 : env.kindOf (Str.ofString "name") = some .local := by rfl) (hk : env.scope.kind = .function := by rfl) :
    Tr prog w A kp env m cm own g (eval (.Subscript (.Name (Str.ofString "tally") p) (.Name (Str.ofString "name") q) r) env) (pPair (pI n) (pStrs ys)) :=
  (ev_itemF (knd := strKind prog w) (k := nm) ho hdo hx (ev_CP c6 rfl (mono_V _) hc h1 hk) ((ev_L (v := .str nm t) hm h2 hk).post fun _ _ _ h => by cases h; exact strKind_is prog w _ t)
          (fun u hu => by obtain ⟨t, rfl⟩ := Value.isStrOf_shape hu; rfl)).post fun g'' u kk h => by cases h; exact mono_Pair (mono_I _) (mono_Strs _) _ _ _ kk pr

theorem ev_strip_ {ns : List Int} {e1 : Expr} {p pos : Pos} (G : Gd mg mb g) (hA : Aok 1 A) (hns : ns.length ≤ 63) (h1 : Tr prog w A kp env m cm own g (eval e1 env) (pScr ns))
    (hs1 : starEach [e1] env = (false, eval e1 env) :: starEach [] env := by rfl)
    (hl : env.kindOf (Str.ofString "_law_strip") = some .globalImplicit := by rfl) (hg : env.globals = mainGlobals := by rfl) (hk : env.scope.kind = .function := by rfl) :
    Tr prog w A kp env m cm own g (eval (.Call (.Name (Str.ofString "_law_strip") p) [e1] [] pos) env) (pPair (pStrs ((stripG (ns.take 8)).1 ++ [eS])) (pInts (toZ (stripG (ns.take 8)).2))) := by
  refine ev_fn (i := 3) (R := AllP [pScr ns]) G (by decide) rfl (args_cons (mono_Scr _) h1 args_nil hs1) hs1 (mono_Pair (mono_Strs _) (mono_Ints _)) ?_ hl hg hk
  rintro g₁ s _ a pm code doc G' fn k1 k2 ⟨u1, _, rfl, q1, rfl⟩
  exact strip_ok hA G' fn hns (mono_Scr _ _ _ _ k2 q1)
theorem ev_texts {sg : List Str} {free : List Nat} {e1 e2 : Expr} {p pos : Pos} (G : Gd mg mb g) (hA : Aok 1 A) (hsz : sg.length ≤ 12) (hone : ∀ x ∈ sg, x.length ≤ 1)
    (h1 : Tr prog w A kp env m cm own g (eval e1 env) (pStrs sg)) (h2 : Tr prog w A kp env m cm own g (eval e2 env) (pInts (toZ free)))
    (hs1 : starEach [e1, e2] env = (false, eval e1 env) :: starEach [e2] env := by rfl) (hs2 : starEach [e2] env = (false, eval e2 env) :: starEach [] env := by rfl)
    (hl : env.kindOf (Str.ofString "_law_texts") = some .globalImplicit := by rfl) (hg : env.globals = mainGlobals := by rfl) (hk : env.scope.kind = .function := by rfl) :
    Tr prog w A kp env m cm own g (eval (.Call (.Name (Str.ofString "_law_texts") p) [e1, e2] [] pos) env) (pStrs (textsG sg free (sg.length - 2))) := by
  refine ev_fn (i := 5) (R := AllP [pStrs sg, pInts (toZ free)]) G (by decide) rfl (args_cons (mono_Strs _) h1 (args_cons (mono_Ints _) h2 args_nil hs2) hs1) hs1 (mono_Strs _) ?_ hl hg hk
  rintro g₁ s _ a pm code doc G' fn k1 k2 ⟨u1, _, rfl, q1, u2, _, rfl, q2, rfl⟩
  exact texts_ok hA G' fn hsz hone (mono_Strs _ _ _ _ k2 q1) (mono_Ints _ _ _ _ k2 q2)
theorem ev_tally {ts : List Str} {e1 : Expr} {p pos : Pos} (G : Gd mg mb g) (hA : Aok 2 A) (hsz : ts.length ≤ 2 ^ 20) (hlen : ∀ t ∈ ts, t.length ≤ 2 ^ 10)
    (h1 : Tr prog w A kp env m cm own g (eval e1 env) (pStrs ts)) (hs1 : starEach [e1] env = (false, eval e1 env) :: starEach [] env := by rfl)
    (hl : env.kindOf (Str.ofString "_law_tally") = some .globalImplicit := by rfl) (hg : env.globals = mainGlobals := by rfl) (hk : env.scope.kind = .function := by rfl) :
    Tr prog w A kp env m cm own g (eval (.Call (.Name (Str.ofString "_law_tally") p) [e1] [] pos) env) (pTally prog w ts) := by
  refine ev_fn (i := 6) (R := AllP [pStrs ts]) G (by decide) rfl (args_cons (mono_Strs _) h1 args_nil hs1) hs1 (mono_Tally prog w ts) ?_ hl hg hk
  rintro g₁ s _ a pm code doc G' fn k1 k2 ⟨u1, _, rfl, q1, rfl⟩
  exact tally_ok hA G' fn hsz hlen (mono_Strs _ _ _ _ k2 q1)
/-- what the plain law says of one strip that is written alone -/
structure AloneOk (sg : List Str) : Prop where
  nx : NxOk sg (nextsF [] sg.length)
  row : ∀ i, (nxA (nextsF [] sg.length) i).Nodup
  pos : 0 < (nextsF [] sg.length).length
  len : sg.length ≤ 12
  one : ∀ x ∈ sg, x.length ≤ 1
  join : (joinF sg).length ≤ 2 ^ 10
  law : writF sg (nextsF [] sg.length) (parseF (joinF sg)) = 1
theorem ev_alone {sg : List Str} {e1 : Expr} {p pos : Pos} (G : Gd mg mb g) (hA : Aok 3 A) (h : AloneOk sg) (h1 : Tr prog w A kp env m cm own g (eval e1 env) (pStrs sg))
    (hs1 : starEach [e1] env = (false, eval e1 env) :: starEach [] env := by rfl)
    (hl : env.kindOf (Str.ofString "_law_alone") = some .globalImplicit := by rfl) (hg : env.globals = mainGlobals := by rfl) (hk : env.scope.kind = .function := by rfl) :
    Tr prog w A kp env m cm own g (eval (.Call (.Name (Str.ofString "_law_alone") p) [e1] [] pos) env) (pB true) := by
  refine ev_fn (i := 12) (R := AllP [pStrs sg]) G (by decide) rfl (args_cons (mono_Strs _) h1 args_nil hs1) hs1 (mono_B _) ?_ hl hg hk
  rintro g₁ s _ a pm code doc G' fn k1 k2 ⟨u1, _, rfl, q1, rfl⟩
  have := alone_ok (prog := prog) (w := w) hA G' fn h.nx h.row h.pos h.len h.one h.join (mono_Strs _ _ _ _ k2 q1)
  rw [h.law] at this
  exact this
end

/-- a call of a def, from the caller of the claim -/
def CallC (prog : Program) (w : World) (A : Around) (a : Addr) (vs : List Value) (s : Shared) (P : Heap → Value → Prop) : Prop :=
  ∀ R : Result → Shared → Prop, (∀ v h' tk, Sub s.heap h' → P (minus h' s.heap) v → R (.ok (.ret v)) { s with heap := h', toks := tk }) → codeAny (model prog w) A (.call (.ref a) ⟨vs, []⟩) R s
theorem call_enterC {prog : Program} {w : World} {A : Around} {s : Shared} {i : Nat} {a : Addr} {pm code doc : Value} {mg : Str → Option Value} {vals : List Value} {binds : List (Str × Value)} {P : Heap → Value → Prop}
    (f : FnAt mg s.heap i a pm code doc) (hroom : A.depth < recursionLimit) (hlim : s.heap.NoLimit) (hbind : bindArgs (fdF i pm code doc) ⟨vals, []⟩ = pure binds)
    (hkind : (binds.all fun y => (scF (stm i)).names.lookup y.1 == some .local || (scF (stm i)).names.lookup y.1 == some .cell) = true)
    (hnd : ((cellsFrom 0 (scF (stm i)).names []).map (·.1)).Nodup)
    (hco : (scF (stm i)).isCoroutine = false) (hgen : (scF (stm i)).isGenerator = false) (hk : (scF (stm i)).kind = .function)
    (h : ∀ s₁, Fm s s.heap [] (envF i pm code doc s.heap.objs.size a) (bindL (envF i pm code doc s.heap.objs.size a).kindOf binds fun _ => none) (bindC (envF i pm code doc s.heap.objs.size a).kindOf binds fun _ => none) [] s₁ →
      ∀ E', wpAny (model prog w) (A.deeper (envF i pm code doc s.heap.objs.size a)) (execs (bdF (stm i)) (envF i pm code doc s.heap.objs.size a))
        (fun f s' => ∃ v h' tk, f = .ret v ∧ s' = { s with heap := h', toks := tk } ∧ Sub s.heap h' ∧ P (minus h' s.heap) v) E' s₁) : CallC prog w A a vals s P := by
  intro R c
  obtain ⟨o, ho, hd⟩ := f.ob
  refine (codeAny_call_cells (fd := fdF i pm code doc) hroom ho hd hlim f.cd rfl hbind rfl ?_ ?_ hco hgen hk)
  · exact kindsX hkind (s.heap.objs.size + 1)
  · intro s₁ x
    have hnd' : ((envF i pm code doc s.heap.objs.size a).cells.map (·.1)).Nodup := by
      have : (envF i pm code doc s.heap.objs.size a).cells.map (·.1) = (cellsFrom 0 (scF (stm i)).names []).map (·.1) := cellsFrom_names _ _ _ _ _ rfl
      rw [this]; exact hnd
    have hLc : ∀ c ∈ (envF i pm code doc s.heap.objs.size a).cells.map (·.2), s.heap.objs.size < c := by
      intro c hc
      obtain ⟨⟨n, c'⟩, hp, rfl⟩ := List.mem_map.mp hc
      exact x.above n c' hp
    have Fm1 : Fm s s.heap [] (envF i pm code doc s.heap.objs.size a) (bindL (envF i pm code doc s.heap.objs.size a).kindOf binds fun _ => none) (bindC (envF i pm code doc s.heap.objs.size a).kindOf binds fun _ => none) [] s₁ := by
      refine ⟨x.toInCall.same, x.toInCall.keep, x.toInCall.ns, fun n c hm => x.cell n c (lookup_of_mem hnd' hm), fun _ h => (nomatch h), fun _ h => (nomatch h), ?_, ?_⟩
      · intro b hb
        have hge : s.heap.objs.size ≤ b := by
          unfold hidden at hb
          rcases List.mem_cons.mp hb with rfl | hb
          · exact Nat.le_refl _
          · simp only [List.map_nil, List.append_nil] at hb
            exact Nat.le_of_lt (hLc b hb)
        cases e : s.heap.get? b with
        | none => rfl
        | some o => exact absurd (Heap.lt_size e) (Nat.not_lt.mpr hge)
      · unfold hidden
        simp only [List.map_nil, List.append_nil]
        refine List.nodup_cons.mpr ⟨fun hm => Nat.lt_irrefl _ (hLc _ hm), ?_⟩
        exact List.pairwise_map.mpr x.apart
    refine wpAny_mono (h s₁ Fm1 _) (fun f s' hf => ?_) fun _ _ e => e
    obtain ⟨v, h', tk, rfl, rfl, k, p⟩ := hf
    exact c v h' tk k p

/-- what the plain law says of a script -/
structure LawOk (sg : List Str) (free : List Nat) : Prop where
  nx : NxOk sg (nextsF free sg.length)
  row : ∀ i, (nxA (nextsF free sg.length) i).Nodup
  pos : 0 < (nextsF free sg.length).length
  len : sg.length ≤ 12
  two : 2 ≤ sg.length
  one : ∀ x ∈ sg, x.length ≤ 1
  law : ∀ t ∈ textsG sg free (sg.length - 2), writF sg (nextsF free sg.length) (parseF t) = (cntN (textsG sg free (sg.length - 2)) (nameF (parseF t)) : Int)
  whole : AloneOk sg
  less : AloneOk ([eS] ++ sg.drop 2)

set_option maxHeartbeats 4000000 in
theorem law_ok {prog : Program} {w : World} {A : Around} {s : Shared} {mg mb : Str → Option Value} {a : Addr} {pm code doc : Value} {v : Value} {ns : List Int}
    (hA : Aok 6 A) (G : Gd mg mb s.heap) (fn : FnAt mg s.heap 13 a pm code doc) (hns : ns.length ≤ 63) (hv : pScr ns s.heap v) (L : LawOk ((stripG (ns.take 8)).1 ++ [eS]) (stripG (ns.take 8)).2) :
    CallC prog w A a [v] s (pB true) := by
  refine call_enterC fn (by have := hA.depth; omega) G.nolimit (binds := [(Str.ofString "script", v)]) rfl rfl (by decide) rfl rfl rfl ?_
  intro s₁ F E'
  have hA5 : Aok 5 (A.deeper (envF 13 pm code doc s.heap.objs.size a)) := hA.deeper (k := 5) (envF 13 pm code doc s.heap.objs.size a)
  have hA3 := hA5.mono (j := 3) (by decide)
  have hA2 := hA5.mono (j := 2) (by decide)
  have hA1 := hA5.mono (j := 1) (by decide)
  have hAd := hA1.hand
  have hS : (2 : Nat) ^ 22 ≤ sizeLine := by decide
  obtain ⟨sg, hsg⟩ : ∃ sg, (stripG (ns.take 8)).1 ++ [eS] = sg := ⟨_, rfl⟩
  obtain ⟨free, hfree⟩ : ∃ free, (stripG (ns.take 8)).2 = free := ⟨_, rfl⟩
  rw [hsg, hfree] at L
  have hcells : (envF 13 pm code doc s.heap.objs.size a).cells = [(Str.ofString "tally", s.heap.objs.size + 3), (Str.ofString "nexts", s.heap.objs.size + 2), (Str.ofString "signs", s.heap.objs.size + 1)] := rfl
  have hcn : ((envF 13 pm code doc s.heap.objs.size a).cells.map (·.1)).Nodup := show [Str.ofString "tally", Str.ofString "nexts", Str.ofString "signs"].Nodup by decide
  have hLlen := L.len
  -- signs, free
  refine x_unpack2 F (x := Str.ofString "signs") (y := Str.ofString "free") (P1 := pStrs sg) (P2 := pInts (toZ free)) hAd (st_cell (a := s.heap.objs.size + 1) rfl rfl hcn rfl) (st_local rfl rfl)
    (by rw [← hsg, ← hfree]; exact ev_strip_ G hA1 hns (ev_LP (v := v) rfl hv (mono_Scr _))) rfl rfl rfl rfl rfl ?_
  intro v1 v2 g₁ s₂ k1 h1 h2 F1
  have c1 : fmI (fmU (Str.ofString "signs") (bindC (envF 13 pm code doc s.heap.objs.size a).kindOf [(Str.ofString "script", v)] fun _ => none) v1) v2 (Str.ofString "signs") = some v1 := by simp [fmU, fmI, upd]
  have m1 : fmU (Str.ofString "free") (fmI (bindL (envF 13 pm code doc s.heap.objs.size a).kindOf [(Str.ofString "script", v)] fun _ => none) v1) v2 (Str.ofString "free") = some v2 := by simp [fmU, upd]
  generalize fmI (fmU (Str.ofString "signs") (bindC (envF 13 pm code doc s.heap.objs.size a).kindOf [(Str.ofString "script", v)] fun _ => none) v1) v2 = cm₁ at *
  generalize fmU (Str.ofString "free") (fmI (bindL (envF 13 pm code doc s.heap.objs.size a).kindOf [(Str.ofString "script", v)] fun _ => none) v1) v2 = m₁ at *
  -- nexts
  refine x_assign F1 (x := Str.ofString "nexts") (st_cell (a := s.heap.objs.size + 2) rfl rfl hcn rfl) (ev_nexts (free := free) (G.keeps k1) hA1 (by omega) (ev_CP (a := s.heap.objs.size + 1) c1 h1 (mono_Strs _) rfl) (ev_LP m1 h2 (mono_Ints _))) rfl ?_
  intro v3 g₂ s₃ k2 h3 F2
  have c2 : fmU (Str.ofString "nexts") cm₁ v3 (Str.ofString "signs") = some v1 := by simp [fmU, upd, ofS_inj, c1]
  have c3 : fmU (Str.ofString "nexts") cm₁ v3 (Str.ofString "nexts") = some v3 := by simp [fmU, upd]
  generalize fmU (Str.ofString "nexts") cm₁ v3 = cm₂ at *
  change Fm s g₂ [] (envF 13 pm code doc s.heap.objs.size a) m₁ cm₂ [] s₃ at F2
  have kg2 := k1.trans k2
  -- tally
  have htl := textsG_len (free := free) L.one (sg.length - 2)
  have hpow : (2 : Nat) ^ (sg.length - 2) ≤ 2 ^ 10 := Nat.pow_le_pow_right (by decide) (by omega)
  refine x_assign F2 (x := Str.ofString "tally") (st_cell (a := s.heap.objs.size + 3) rfl rfl hcn rfl) (ev_tally (ts := textsG sg free (sg.length - 2)) (G.keeps kg2) hA2 (by omega) (fun t ht => by have := htl.2 t ht; omega)
    (ev_texts (G.keeps kg2) hA1 hLlen L.one (ev_CP (a := s.heap.objs.size + 1) c2 (mono_Strs _ _ _ _ k2 h1) (mono_Strs _) rfl) (ev_LP m1 (mono_Ints _ _ _ _ k2 h2) (mono_Ints _)))) rfl ?_
  intro v4 g₃ s₄ k3 h4 F3
  have c4 : fmU (Str.ofString "tally") cm₂ v4 (Str.ofString "signs") = some v1 := by simp [fmU, upd, ofS_inj, c2]
  have c5 : fmU (Str.ofString "tally") cm₂ v4 (Str.ofString "nexts") = some v3 := by simp [fmU, upd, ofS_inj, c3]
  have c6 : fmU (Str.ofString "tally") cm₂ v4 (Str.ofString "tally") = some v4 := by simp [fmU, upd]
  generalize fmU (Str.ofString "tally") cm₂ v4 = cm₃ at *
  change Fm s g₃ [] (envF 13 pm code doc s.heap.objs.size a) m₁ cm₃ [] s₄ at F3
  have kg3 := kg2.trans k3
  have h1' := mono_Strs _ _ _ _ (k2.trans k3) h1
  have h3' := mono_Nx _ _ _ _ k3 h3
  obtain ⟨b, ob, es, rfl, hbs, hob, hdo, hT⟩ := h4
  have hel := dict_len hdo hT
  have hnd : (es.map (·.1)).Nodup := by obtain ⟨_, _, _, _, _, _, hn⟩ := hdo; exact hn
  have hkey : ∀ {i : Nat} {u : Value}, (∃ k x, es[i]? = some (k, x) ∧ (strKind prog w).is k u = true) → ∃ k x t, u = .str k t ∧ valueAt es k = some x ∧ ∃ y ∈ textsG sg free (sg.length - 2), k = nameF (parseF y) ∧ pPair (pI (cntN (textsG sg free (sg.length - 2)) k : Int)) (pStrs (parseF y)) g₃ x := by
    rintro i u ⟨k, x, h5, h6⟩
    obtain ⟨t, rfl⟩ := Value.isStrOf_shape h6
    obtain ⟨y, hy, e, pr⟩ := hT.ent (k, x) (List.mem_of_getElem? h5)
    exact ⟨k, x, t, rfl, valueAt_of_get hnd h5, y, hy, e, pr⟩
  refine x_if F3 (b := false) (te_cmp (P := pL []) (P2 := fun u g' v => pL [] g' u ∧ pL [] g' v) rfl ?_ (fun g₁ u k hu => ?_) ?_) (fun h => (nomatch h)) ?_
  · refine ev_comp (cl := [(Str.ofString "tally", s.heap.objs.size + 3), (Str.ofString "signs", s.heap.objs.size + 1), (Str.ofString "nexts", s.heap.objs.size + 2)]) (fun _ => false) (fun _ _ => False)
      rfl (by decide) rfl (by decide) rfl ?_ (by simp) (n := es.length) (P := fun i u => ∃ k x, es[i]? = some (k, x) ∧ (strKind prog w).is k u = true) (Pv := fun _ v => v = .ref b)
      (ev_CP (a := s.heap.objs.size + 3) c6 rfl (mono_V _) rfl) ?_ (by omega) ?_ ?_ ?_ ?_
    · intro nc hnc
      rw [hcells]
      rcases List.mem_cons.mp hnc with rfl | hnc
      · exact List.mem_cons_self
      rcases List.mem_cons.mp hnc with rfl | hnc
      · exact List.mem_cons_of_mem _ (List.mem_cons_of_mem _ List.mem_cons_self)
      · rw [List.mem_singleton.mp hnc]; exact List.mem_cons_of_mem _ List.mem_cons_self
    · rintro g' u k rfl
      exact itr_dict hAd hbs (dictOf_own (k _ _ hob) hdo)
    · intro C m₃ i u g' k hP hm
      obtain ⟨nm, x, t, rfl, hx, y, hy, e, pr⟩ := hkey hP
      refine tr_tests1 ?_
      have hne : (writF sg (nextsF free sg.length) (parseF y) != (cntN (textsG sg free (sg.length - 2)) nm : Int)) = false := by
        rw [L.law y hy, e]; simp
      rw [← hne]
      have hpl := parse_len y
      have hyl := htl.2 y hy
      exact te_neI (ev_writings (G.keeps (kg3.trans k)) hA2 L.nx L.row L.pos (by omega) (ev_CP (a := s.heap.objs.size + 1) c4 (mono_Strs _ _ _ _ k h1') (mono_Strs _) rfl) (ev_CP (a := s.heap.objs.size + 2) c5 (mono_Nx _ _ _ _ k h3') (mono_Nx _) rfl)
        (ev_snd (mono_I _) (mono_Strs _) (ev_tallyItem (k _ _ hob) hdo hx c6 rfl hm (mono_Pair (mono_I _) (mono_Strs _) _ _ _ k pr)) ev_int (fun _ _ => rfl))) (ev_fst (mono_I _) (mono_Strs _) (ev_tallyItem (k _ _ hob) hdo hx c6 rfl hm (mono_Pair (mono_I _) (mono_Strs _) _ _ _ k pr)) ev_int (fun _ _ => rfl)) rfl
    · intro C m₃ i u g' k hP hp hm
      cases hp
    · intro g' D oD us ys k hD hDn lo hlen' hP hpair
      rw [List.filter_eq_nil_iff.mpr (fun _ _ => by simp)] at hpair
      cases hpair
      exact ⟨D, oD, rfl, hD, lo⟩
    · intro x; rfl
  · refine (ev_list (Ps := []) (P := pL []) args_nil ?_ ?_).post fun g' v k' hv => ⟨mono_L _ _ _ _ k' hu, hv⟩
    · rintro g' _ rfl; exact (by decide : 0 ≤ sizeLine)
    · rintro g' _ rfl g'' c kk e
      exact ⟨c, _, rfl, e, rfl, rfl, _, rfl⟩
  · rintro g' _ _ k ⟨⟨a1, o1, rfl, ho1, lo1⟩, ⟨a2, o2, rfl, ho2, lo2⟩⟩
    refine Tr.prim fun _ g₄ s' Q E k4 F4 c => ne_intsK (vs := []) (us := []) (ns := []) (ms := []) (lo1.isList (F4.keep _ _ (k4 _ _ ho1))) .nil (lo2.isList (F4.keep _ _ (k4 _ _ ho2))) .nil (by have := hA5.units; omega) ?_
    exact c _ s'.toks (by simp)
  intro _ g₄ s₅ k4 F4
  refine x_nil ?_
  show wpAny _ _ (execs _ _) _ _ _
  have kg4 := kg3.trans k4
  have h1'' := mono_Strs _ _ _ _ k4 h1'
  refine x_ret F4 (P := pB true) (ev_andT (ev_alone (sg := sg) (G.keeps kg4) hA3 L.whole (ev_CP (a := s.heap.objs.size + 1) c4 h1'' (mono_Strs _) rfl)) (ev_alone (sg := [eS] ++ sg.drop 2) (G.keeps kg4) hA3 L.less
    ((ev_addL (xs := [eS]) (ys := sg.drop 2) (by simp; omega) (ev_strs1 ev_str) (ev_from (b := 2) (ev_CP (a := s.heap.objs.size + 1) c4 h1'' (mono_Strs _) rfl) ev_int L.two (by omega) (fun _ _ => rfl))).post fun _ _ _ h => h.1))) ?_
  rintro u g₅ s₆ k5 rfl F5
  obtain ⟨h', tk, rfl⟩ := F5.same
  exact ⟨_, h', tk, rfl, rfl, (kg4.trans k5).trans F5.keep, rfl⟩
end Mine

namespace Mine
open PySem PySem.Calls PyProof.Rows PySem.W

/-! ## the parser, over lists of code points -/
structure LS where
  res : List (List Nat)
  part : List Nat
  esc : Bool
  quote : Bool
def lStep (st : LS) (c : Nat) : LS :=
  if st.esc then { st with part := st.part ++ [c], esc := false }
  else if st.quote then (if c = 92 then { st with esc := true } else if c = 34 then { st with quote := false, part := st.part ++ [c] } else { st with part := st.part ++ [c] })
  else if c = 44 then { st with res := st.res ++ [st.part], part := [] }
  else if c = 34 then { st with quote := true, part := st.part ++ [c] }
  else { st with part := st.part ++ [c] }
def ls0 : LS := ⟨[], [], false, false⟩
def lsOf (t : List Nat) : LS := t.foldl lStep ls0
theorem lsOf_snoc (t : List Nat) (d : Nat) : lsOf (t ++ [d]) = lStep (lsOf t) d := by unfold lsOf; rw [List.foldl_append]; rfl

def spN (c : Nat) : Bool := Unicode.isSpace c
theorem sp34 : spN 34 = false := by decide +kernel
theorem sp44 : spN 44 = false := by decide +kernel
theorem sp92 : spN 92 = false := by decide +kernel
def lstr (l : List Nat) : List Nat := l.dropWhile spN
def strp (l : List Nat) : List Nat := ((lstr l).reverse.dropWhile spN).reverse
theorem lstr_snoc (p : List Nat) (d : Nat) : lstr (p ++ [d]) = if lstr p = [] then (if spN d then [] else [d]) else lstr p ++ [d] := by
  unfold lstr
  rw [List.dropWhile_append]
  by_cases h : List.dropWhile spN p = []
  · simp only [h, List.isEmpty_nil, if_true]
    by_cases hd : spN d = true
    · simp [hd]
    · simp [hd]
  · simp [h]
theorem lstr_eq {p y : List Nat} {d s : Nat} (h : y = [] → spN s = false) : (lstr (p ++ [d]) = y ++ [s]) ↔ (lstr p = y ∧ d = s) := by
  rw [lstr_snoc]
  by_cases hp : lstr p = []
  · rw [if_pos hp, hp]
    by_cases hd : spN d = true
    · rw [if_pos hd]
      constructor
      · intro e; simp at e
      · rintro ⟨rfl, rfl⟩; rw [h rfl] at hd; cases hd
    · rw [if_neg hd]
      constructor
      · intro e
        cases y with
        | nil => simp at e; exact ⟨rfl, e⟩
        | cons a r => simp at e
      · rintro ⟨rfl, rfl⟩; rfl
  · rw [if_neg hp]
    constructor
    · intro e; have := List.append_inj' e rfl; exact ⟨this.1, by simpa using this.2⟩
    · rintro ⟨rfl, rfl⟩; rfl
theorem strp_sp {p : List Nat} {d : Nat} (h : spN d = true) : strp (p ++ [d]) = strp p := by
  unfold strp
  rw [lstr_snoc]
  by_cases hp : lstr p = []
  · simp [hp, h]
  · simp [hp, h]
theorem strp_ns {p : List Nat} {d : Nat} (h : spN d = false) : strp (p ++ [d]) = lstr (p ++ [d]) := by
  unfold strp
  rw [lstr_snoc]
  by_cases hp : lstr p = []
  · simp [hp, h]
  · simp [hp, h]
theorem dw_nil {l : List Nat} (h : l.dropWhile spN = []) : ∀ x ∈ l, spN x = true := by
  induction l with
  | nil => intro x hx; cases hx
  | cons a r ih =>
    by_cases ha : spN a = true
    · rw [List.dropWhile_cons_of_pos ha] at h
      intro x hx
      rcases List.mem_cons.mp hx with rfl | hx
      · exact ha
      · exact ih h x hx
    · rw [List.dropWhile_cons_of_neg ha] at h; cases h
theorem lstr_nil_iff (p : List Nat) : strp p = [] ↔ lstr p = [] := by
  unfold strp
  constructor
  · intro h
    have h1 : (lstr p).reverse.dropWhile spN = [] := by simpa using h
    cases hp : lstr p with
    | nil => rfl
    | cons a r =>
      exfalso
      have ha : spN a = false := by
        have := List.head?_dropWhile_not spN p
        unfold lstr at hp
        rw [hp] at this; simpa using this
      have hall : ∀ x ∈ (lstr p).reverse, spN x = true := by
        intro x hx
        exact dw_nil h1 x hx
      have := hall a (by rw [hp]; simp)
      rw [ha] at this; cases this
  · intro h; rw [h]; rfl
/-- no white sign at either end -/
structure Stp (x : List Nat) : Prop where
  fst : ∀ s y, x = s :: y → spN s = false
  lst : ∀ s y, x = y ++ [s] → spN s = false
theorem head_dropWhile {l y : List Nat} {s : Nat} (h : l.dropWhile spN = s :: y) : spN s = false := by
  have := List.head?_dropWhile_not spN l
  rw [h] at this; simpa using this
theorem strp_stp (p : List Nat) : Stp (strp p) := by
  constructor
  · intro s y e
    unfold strp at e
    have h1 : (lstr p).reverse.dropWhile spN = y.reverse ++ [s] := by
      have := congrArg List.reverse e; simpa using this
    obtain ⟨z, hz⟩ : ∃ z, z ++ (lstr p).reverse.dropWhile spN = (lstr p).reverse := ⟨_, List.takeWhile_append_dropWhile⟩
    rw [h1] at hz
    have h2 := congrArg List.reverse hz
    simp at h2
    exact head_dropWhile (l := p) (y := y ++ z.reverse) (by unfold lstr at h2; rw [← h2])
  · intro s y e
    unfold strp at e
    have h1 : (lstr p).reverse.dropWhile spN = s :: y.reverse := by
      have := congrArg List.reverse e; simpa using this
    exact head_dropWhile h1

/-! ## one step of the parser -/
structure Inv (σ : LS) : Prop where
  e : σ.esc = true → σ.quote = true
  q : σ.quote = true → 34 ∈ σ.part
theorem inv_step {σ : LS} (h : Inv σ) (d : Nat) : Inv (lStep σ d) := by
  obtain ⟨res, part, esc, quote⟩ := σ
  obtain ⟨h1, h2⟩ := h
  unfold lStep
  dsimp only at *
  cases esc
  · cases quote
    · by_cases h44 : d = 44
      · simp [h44]; exact ⟨by simp, by simp⟩
      · by_cases h34 : d = 34
        · simp [h34]; exact ⟨by simp, by simp⟩
        · simp [h34, h44]; exact ⟨by simp, by simp⟩
    · have h3 := h2 rfl
      by_cases h92 : d = 92
      · simp [h92]; exact ⟨by simp, by simpa using h3⟩
      · by_cases h34 : d = 34
        · simp [h34]; exact ⟨by simp, by simp⟩
        · simp [h34, h92]; exact ⟨by simp, by simp [h3]⟩
  · have hq := h1 rfl
    subst hq
    simp; exact ⟨by simp, by simp [h2 rfl]⟩
theorem inv_of (t : List Nat) : Inv (lsOf t) := by
  have : ∀ (t : List Nat) (σ : LS), Inv σ → Inv (t.foldl lStep σ) := by
    intro t
    induction t with
    | nil => intro σ h; exact h
    | cons d r ih => intro σ h; exact ih _ (inv_step h d)
  exact this t ls0 ⟨by simp [ls0], by simp [ls0]⟩
theorem lstr_ne {p : List Nat} (h : 34 ∈ p) : lstr p ≠ [] := by
  intro e
  have := dw_nil e 34 h
  rw [sp34] at this; cases this

def D (R : List (List Nat) → Bool) (q e : Bool) (h : List Nat → Bool) (σ : LS) : Bool := R σ.res && (σ.quote == q) && (σ.esc == e) && h σ.part
def isL (y : List Nat) (p : List Nat) : Bool := decide (lstr p = y)
def isT (y : List Nat) (p : List Nat) : Bool := decide (strp p = y)
def Bg (R : List (List Nat) → Bool) (σ : LS) : Bool := R σ.res && σ.part.isEmpty
theorem isL_snoc {p y : List Nat} {d s : Nat} (h : y = [] → spN s = false) : isL (y ++ [s]) (p ++ [d]) = (decide (d = s) && isL y p) := by
  unfold isL
  rw [Bool.eq_iff_iff]
  simp only [decide_eq_true_iff, Bool.and_eq_true, lstr_eq h]
  exact and_comm
theorem isL_nil (y : List Nat) (s : Nat) : isL (y ++ [s]) [] = false := by simp [isL, lstr]

variable {R : List (List Nat) → Bool} {σ : LS} {d s : Nat} {x y : List Nat}
/-- the slash inside quotes -/
theorem st_slash (h : Inv σ) (f : List Nat → Bool) : D R true true f (lStep σ d) = (decide (d = 92) && D R true false f σ) := by
  obtain ⟨res, part, esc, quote⟩ := σ
  have h1 := h.e
  unfold lStep D
  dsimp only at *
  cases esc <;> cases quote
  · by_cases h44 : d = 44
    · simp [h44]
    · by_cases h34 : d = 34
      · simp [h34]
      · simp [h34, h44]
  · by_cases h92 : d = 92
    · simp [h92]
    · by_cases h34 : d = 34
      · simp [h34]
      · simp [h34, h92]
  · cases h1 rfl
  · simp
theorem st_out (h : Inv σ) (hy : y = [] → spN s = false) (hs : s ≠ 34) (hs' : s ≠ 44) : D R false false (isL (y ++ [s])) (lStep σ d) = (decide (d = s) && D R false false (isL y) σ) := by
  obtain ⟨res, part, esc, quote⟩ := σ
  have h1 := h.e
  unfold lStep D
  dsimp only at *
  cases esc <;> cases quote
  · by_cases h44 : d = 44
    · subst h44
      simp [isL_nil, Ne.symm hs']
    · by_cases h34 : d = 34
      · subst h34; simp [Ne.symm hs]
      · simp [h34, h44, isL_snoc hy]
        by_cases hd : d = s <;> simp [hd]
  · by_cases h92 : d = 92
    · simp [h92]
    · by_cases h34 : d = 34
      · subst h34; simp [isL_snoc hy, Ne.symm hs]
      · simp [h34, h92]
  · cases h1 rfl
  · simp
theorem st_outQ (h : Inv σ) : D R false false (isL (y ++ [34])) (lStep σ d) = (decide (d = 34) && D R true false (isL y) σ) := by
  obtain ⟨res, part, esc, quote⟩ := σ
  have h1 := h.e
  have hy : y = [] → spN 34 = false := fun _ => sp34
  unfold lStep D
  dsimp only at *
  cases esc <;> cases quote
  · by_cases h44 : d = 44
    · subst h44; simp [isL_nil]
    · by_cases h34 : d = 34
      · simp [h34]
      · simp [h34, h44, isL_snoc hy]
  · by_cases h92 : d = 92
    · simp [h92]
    · by_cases h34 : d = 34
      · subst h34; simp [isL_snoc hy]
      · simp [h34, h92]
  · cases h1 rfl
  · simp
theorem st_outC (h : Inv σ) : D R false false (isL (y ++ [44])) (lStep σ d) = false := by
  obtain ⟨res, part, esc, quote⟩ := σ
  have h1 := h.e
  have hy : y = [] → spN 44 = false := fun _ => sp44
  unfold lStep D
  dsimp only at *
  cases esc <;> cases quote
  · by_cases h44 : d = 44
    · subst h44; simp [isL_nil]
    · by_cases h34 : d = 34
      · simp [h34]
      · simp [h34, h44, isL_snoc hy]
  · by_cases h92 : d = 92
    · simp [h92]
    · by_cases h34 : d = 34
      · subst h34; simp [isL_snoc hy]
      · simp [h34, h92]
  · cases h1 rfl
  · simp
theorem st_inQ (h : Inv σ) : D R true false (isL (y ++ [34])) (lStep σ d) = (decide (d = 34) && (D R false false (isL y) σ || D R true true (isL y) σ)) := by
  obtain ⟨res, part, esc, quote⟩ := σ
  have h1 := h.e
  have hy : y = [] → spN 34 = false := fun _ => sp34
  unfold lStep D
  dsimp only at *
  cases esc <;> cases quote
  · by_cases h44 : d = 44
    · subst h44; simp
    · by_cases h34 : d = 34
      · subst h34; simp [isL_snoc hy]
      · simp [h34, h44]
  · by_cases h92 : d = 92
    · simp [h92]
    · by_cases h34 : d = 34
      · subst h34; simp
      · simp [h34, h92, isL_snoc hy]
  · cases h1 rfl
  · simp [isL_snoc hy]
    by_cases h34 : d = 34 <;> simp [h34]
theorem st_inB (h : Inv σ) : D R true false (isL (y ++ [92])) (lStep σ d) = (decide (d = 92) && D R true true (isL y) σ) := by
  obtain ⟨res, part, esc, quote⟩ := σ
  have h1 := h.e
  have hy : y = [] → spN 92 = false := fun _ => sp92
  unfold lStep D
  dsimp only at *
  cases esc <;> cases quote
  · by_cases h44 : d = 44
    · subst h44; simp
    · by_cases h34 : d = 34
      · subst h34; simp [isL_snoc hy]
      · simp [h34, h44]
  · by_cases h92 : d = 92
    · simp [h92]
    · by_cases h34 : d = 34
      · subst h34; simp
      · simp [h34, h92, isL_snoc hy]
  · cases h1 rfl
  · simp [isL_snoc hy]
    by_cases h34 : d = 92 <;> simp [h34]
theorem st_in (h : Inv σ) (hy : y = [] → spN s = false) (hs : s ≠ 34) (hs' : s ≠ 92) : D R true false (isL (y ++ [s])) (lStep σ d) = (decide (d = s) && (D R true false (isL y) σ || D R true true (isL y) σ)) := by
  obtain ⟨res, part, esc, quote⟩ := σ
  have h1 := h.e
  unfold lStep D
  dsimp only at *
  cases esc <;> cases quote
  · by_cases h44 : d = 44
    · subst h44; simp
    · by_cases h34 : d = 34
      · subst h34; simp [isL_snoc hy, Ne.symm hs]
      · simp [h34, h44]
  · by_cases h92 : d = 92
    · subst h92; simp [Ne.symm hs']
    · by_cases h34 : d = 34
      · subst h34; simp [Ne.symm hs]
      · simp [h34, h92, isL_snoc hy]
        by_cases h : d = s <;> simp [h]
  · cases h1 rfl
  · simp [isL_snoc hy]
    by_cases h : d = s <;> simp [h]
theorem isT_sp {p : List Nat} (h : spN d = true) : isT x (p ++ [d]) = isT x p := by unfold isT; rw [strp_sp h]
theorem isT_ns {p : List Nat} (h : spN d = false) : isT x (p ++ [d]) = isL x (p ++ [d]) := by unfold isT isL; rw [strp_ns h]
theorem isL_sp {p : List Nat} (hx : Stp x) (hn : x ≠ []) (h : spN d = true) : isL x (p ++ [d]) = false := by
  have e := List.dropLast_concat_getLast hn
  have hl := hx.lst _ _ e.symm
  have hy : x.dropLast = [] → spN (x.getLast hn) = false := fun _ => hl
  rw [← e, isL_snoc hy]
  have : d ≠ x.getLast hn := by intro e; rw [← e, h] at hl; cases hl
  simp [this]
theorem spne (h : spN d = true) : d ≠ 34 ∧ d ≠ 44 ∧ d ≠ 92 := by
  refine ⟨?_, ?_, ?_⟩ <;> rintro rfl
  · rw [sp34] at h; cases h
  · rw [sp44] at h; cases h
  · rw [sp92] at h; cases h
theorem isT_nil (hn : x ≠ []) : isT x [] = false := by simp [isT, strp, lstr]; exact hn
theorem isL_nil' (hn : x ≠ []) : isL x [] = false := by simp [isL, lstr]; exact hn
/-- white signs behind an item, outside quotes -/
theorem st_after (h : Inv σ) (hx : Stp x) (hn : x ≠ []) : D R false false (isT x) (lStep σ d) = if spN d then D R false false (isT x) σ else D R false false (isL x) (lStep σ d) := by
  obtain ⟨res, part, esc, quote⟩ := σ
  have h1 := h.e
  unfold lStep D
  dsimp only at *
  by_cases hd : spN d = true
  · obtain ⟨a, b, c⟩ := spne hd
    rw [if_pos hd]
    cases esc <;> cases quote
    · simp [a, b, isT_sp hd]
    · simp [a, c]
    · cases h1 rfl
    · simp
  · have hd' : spN d = false := by simpa using hd
    rw [if_neg hd]
    cases esc <;> cases quote
    · by_cases h44 : d = 44
      · subst h44; simp [isT_nil hn, isL_nil' hn]
      · by_cases h34 : d = 34
        · subst h34; simp
        · simp [h34, h44, isT_ns hd']
    · by_cases h92 : d = 92
      · simp [h92]
      · by_cases h34 : d = 34
        · subst h34; simp [isT_ns hd']
        · simp [h34, h92]
    · cases h1 rfl
    · simp
theorem st_afterN (h : Inv σ) (hx : Stp x) (hn : x ≠ []) (hd : spN d = true) (q e : Bool) : D R q e (isL x) (lStep σ d) = false := by
  obtain ⟨res, part, esc, quote⟩ := σ
  obtain ⟨a, b, c⟩ := spne hd
  unfold lStep D
  dsimp only at *
  cases esc <;> cases quote <;> simp [a, b, c, isL_sp hx hn hd]
/-- white signs behind an item, inside quotes -/
theorem st_open (h : Inv σ) (hn : x ≠ []) : D R true false (isT x) (lStep σ d) = if spN d then (D R true false (isT x) σ || D R true true (isT x) σ) else D R true false (isL x) (lStep σ d) := by
  obtain ⟨res, part, esc, quote⟩ := σ
  have h1 := h.e
  unfold lStep D
  dsimp only at *
  by_cases hd : spN d = true
  · obtain ⟨a, b, c⟩ := spne hd
    rw [if_pos hd]
    cases esc <;> cases quote
    · simp [a, b]
    · simp [a, c, isT_sp hd]
    · cases h1 rfl
    · simp [isT_sp hd]
  · have hd' : spN d = false := by simpa using hd
    rw [if_neg hd]
    cases esc <;> cases quote
    · by_cases h44 : d = 44
      · subst h44; simp
      · by_cases h34 : d = 34
        · subst h34; simp [isT_ns hd']
        · simp [h34, h44]
    · by_cases h92 : d = 92
      · simp [h92]
      · by_cases h34 : d = 34
        · subst h34; simp
        · simp [h34, h92, isT_ns hd']
    · cases h1 rfl
    · simp [isT_ns hd']
theorem isL0_snoc {p : List Nat} : isL [] (p ++ [d]) = (spN d && isL [] p) := by
  unfold isL
  rw [lstr_snoc, Bool.eq_iff_iff]
  by_cases hp : lstr p = [] <;> by_cases hd : spN d = true <;> simp [hp, hd]
theorem isL0_q {p : List Nat} (h : 34 ∈ p) : isL [] p = false := by simpa [isL] using lstr_ne h
/-- white signs ahead of an item -/
theorem st_begin (h : Inv σ) : D R false false (isL []) (lStep σ d) = if spN d then D R false false (isL []) σ else Bg R (lStep σ d) := by
  obtain ⟨res, part, esc, quote⟩ := σ
  have h1 := h.e
  have h2 := h.q
  unfold lStep D Bg
  dsimp only at *
  by_cases hd : spN d = true
  · obtain ⟨a, b, c⟩ := spne hd
    rw [if_pos hd]
    cases esc <;> cases quote
    · simp [a, b, isL0_snoc, hd]
    · simp [a, c]
    · cases h1 rfl
    · simp
  · have hd' : spN d = false := by simpa using hd
    rw [if_neg hd]
    cases esc <;> cases quote
    · by_cases h44 : d = 44
      · subst h44; simp [isL, lstr]
      · by_cases h34 : d = 34
        · subst h34; simp
        · simp [h34, h44, isL0_snoc, hd']
    · have h3 := h2 rfl
      by_cases h92 : d = 92
      · have hne : part ≠ [] := List.ne_nil_of_mem h3
        simp [h92, hne]
      · by_cases h34 : d = 34
        · subst h34; simp [isL0_snoc, hd']
        · simp [h34, h92]
    · cases h1 rfl
    · simp
theorem st_beginN (h : Inv σ) (hd : spN d = true) : Bg R (lStep σ d) = false := by
  obtain ⟨res, part, esc, quote⟩ := σ
  obtain ⟨a, b, c⟩ := spne hd
  unfold lStep Bg
  dsimp only at *
  cases esc <;> cases quote <;> simp [a, b, c]
theorem st_noquote (h : Inv σ) (e : Bool) : D R true e (isL []) σ = false := by
  obtain ⟨res, part, esc, quote⟩ := σ
  have h2 := h.q
  unfold D
  dsimp only at *
  cases quote
  · simp
  · simp [isL0_q (h2 rfl)]
def isR (its : List (List Nat)) (res : List (List Nat)) : Bool := decide (res.map strp = its)
theorem isR_snoc (its : List (List Nat)) (res : List (List Nat)) (p : List Nat) : isR (its ++ [x]) (res ++ [p]) = (isR its res && isT x p) := by
  unfold isR isT
  rw [Bool.eq_iff_iff]
  simp only [decide_eq_true_iff, Bool.and_eq_true, List.map_append, List.map_cons, List.map_nil]
  constructor
  · intro e; have := List.append_inj' e rfl; exact ⟨this.1, by simpa using this.2⟩
  · rintro ⟨rfl, rfl⟩; rfl
/-- the comma behind an item -/
theorem st_comma (h : Inv σ) (its : List (List Nat)) : Bg (isR (its ++ [x])) (lStep σ d) = (decide (d = 44) && D (isR its) false false (isT x) σ) := by
  obtain ⟨res, part, esc, quote⟩ := σ
  have h1 := h.e
  have h2 := h.q
  unfold lStep D Bg
  dsimp only at *
  cases esc <;> cases quote
  · by_cases h44 : d = 44
    · subst h44; simp [isR_snoc]
    · by_cases h34 : d = 34
      · subst h34; simp
      · simp [h34, h44]
  · have hne : part ≠ [] := List.ne_nil_of_mem (h2 rfl)
    by_cases h92 : d = 92
    · simp [h92, hne]
    · by_cases h34 : d = 34
      · subst h34; simp
      · simp [h34, h92]
  · cases h1 rfl
  · simp
theorem st_start (h : Inv σ) : Bg (isR []) (lStep σ d) = false := by
  obtain ⟨res, part, esc, quote⟩ := σ
  have h1 := h.e
  have h2 := h.q
  unfold lStep Bg isR
  dsimp only at *
  cases esc <;> cases quote
  · by_cases h44 : d = 44
    · subst h44; simp
    · by_cases h34 : d = 34
      · subst h34; simp
      · simp [h34, h44]
  · have hne : part ≠ [] := List.ne_nil_of_mem (h2 rfl)
    by_cases h92 : d = 92
    · simp [h92, hne]
    · by_cases h34 : d = 34
      · subst h34; simp
      · simp [h34, h92]
  · cases h1 rfl
  · simp
end Mine

namespace Mine
open PySem PySem.Calls PyProof.Rows PySem.W

/-! ## sums -/
def sm (n : Nat) (f : Nat → Nat) : Nat := ((List.range n).map f).sum
theorem sm_zero (f : Nat → Nat) : sm 0 f = 0 := rfl
theorem sm_succ (n : Nat) (f : Nat → Nat) : sm (n + 1) f = sm n f + f n := by
  unfold sm; rw [List.range_succ, List.map_append, List.sum_append]; simp
theorem sm_congr {n : Nat} {f g : Nat → Nat} (h : ∀ i, i < n → f i = g i) : sm n f = sm n g := by
  unfold sm
  exact congrArg List.sum (List.map_congr_left fun i hi => h i (List.mem_range.mp hi))
theorem sm_nil {n : Nat} {f : Nat → Nat} (h : ∀ i, i < n → f i = 0) : sm n f = 0 := by
  induction n with
  | zero => rfl
  | succ n ih => rw [sm_succ, ih fun i hi => h i (by omega), h n (by omega)]
theorem sm_add (n : Nat) (f g : Nat → Nat) : sm n (fun i => f i + g i) = sm n f + sm n g := by
  induction n with
  | zero => rfl
  | succ n ih => rw [sm_succ, sm_succ, sm_succ, ih]; omega
theorem sm_if (n : Nat) (b : Prop) [Decidable b] (f : Nat → Nat) : sm n (fun i => if b then f i else 0) = if b then sm n f else 0 := by
  by_cases h : b
  · simp [h]
  · simp only [h, if_false]; exact sm_nil fun _ _ => rfl
theorem sm_swap (n m : Nat) (f : Nat → Nat → Nat) : sm n (fun i => sm m (fun j => f i j)) = sm m (fun j => sm n (fun i => f i j)) := by
  induction n with
  | zero => exact (sm_nil fun _ _ => rfl).symm
  | succ n ih =>
    rw [sm_succ, ih, ← sm_add]
    exact sm_congr fun j _ => (sm_succ _ _).symm
theorem sm_trunc {n m : Nat} {f : Nat → Nat} (h : m ≤ n) (hz : ∀ i, m ≤ i → i < n → f i = 0) : sm n f = sm m f := by
  induction n with
  | zero => have : m = 0 := by omega
            rw [this]
  | succ n ih =>
    by_cases hm : m = n + 1
    · rw [hm]
    · rw [sm_succ, ih (by omega) fun i h1 h2 => hz i h1 (by omega), hz n (by omega) (by omega)]; rfl
theorem sm_row {n : Nat} (h : Nat → Nat) : ∀ {row : List Nat}, row.Nodup → (∀ j ∈ row, j < n) → (row.map h).sum = sm n (fun j => if j ∈ row then h j else 0)
  | [], _, _ => (sm_nil fun _ _ => by simp).symm
  | a :: r, hn, hb => by
    obtain ⟨h1, h2⟩ := List.nodup_cons.mp hn
    rw [List.map_cons, List.sum_cons, sm_row h h2 fun j hj => hb j (List.mem_cons_of_mem _ hj)]
    have e : ∀ j, (if j ∈ a :: r then h j else 0) = (if j = a then h a else 0) + (if j ∈ r then h j else 0) := by
      intro j
      by_cases hj : j = a
      · subst hj; simp [h1]
      · simp [hj]
    rw [show (fun j => if j ∈ a :: r then h j else 0) = fun j => (if j = a then h a else 0) + (if j ∈ r then h j else 0) from funext e, sm_add]
    have : sm n (fun j => if j = a then h a else 0) = h a := by
      have ha := hb a List.mem_cons_self
      rw [sm_trunc (m := a + 1) (by omega) fun i h1 _ => if_neg (by omega), sm_succ, sm_nil fun i hi => if_neg (by omega)]
      simp
    omega

/-! ## the rows of the strip's graph -/
theorem mem_rowGo {free : List Nat} : ∀ {n a j : Nat}, j ∈ rowGo free (List.range' a n) ↔ a ≤ j ∧ j < a + n ∧ ∀ k, a ≤ k → k < j → k ∈ free
  | 0, a, j => by simp [rowGo]; omega
  | n + 1, a, j => by
    rw [List.range'_succ, rowGo, List.mem_cons]
    by_cases ha : a ∈ free
    · rw [if_pos ha, mem_rowGo]
      constructor
      · rintro (rfl | ⟨h1, h2, h3⟩)
        · exact ⟨Nat.le_refl _, by omega, fun k h1 h2 => by omega⟩
        · refine ⟨by omega, by omega, fun k h4 h5 => ?_⟩
          by_cases hk : k = a
          · rw [hk]; exact ha
          · exact h3 k (by omega) h5
      · rintro ⟨h1, h2, h3⟩
        by_cases hj : j = a
        · exact .inl hj
        · exact .inr ⟨by omega, by omega, fun k h4 h5 => h3 k (by omega) h5⟩
    · rw [if_neg ha]
      constructor
      · rintro (rfl | h)
        · exact ⟨Nat.le_refl _, by omega, fun k h1 h2 => by omega⟩
        · cases h
      · rintro ⟨h1, h2, h3⟩
        by_cases hj : j = a
        · exact .inl hj
        · exact absurd (h3 a (Nat.le_refl _) (by omega)) ha
theorem mem_rowF {free : List Nat} {M i j : Nat} : j ∈ rowF free M i ↔ i < j ∧ j < M ∧ ∀ k, i < k → k < j → k ∈ free := by
  unfold rowF
  rw [mem_rowGo]
  constructor
  · rintro ⟨h1, h2, h3⟩; exact ⟨by omega, by omega, fun k h4 h5 => h3 k (by omega) h5⟩
  · rintro ⟨h1, h2, h3⟩; exact ⟨by omega, by omega, fun k h4 h5 => h3 k (by omega) h5⟩
theorem rowGo_sub {free : List Nat} : ∀ {l : List Nat}, (rowGo free l).Sublist l
  | [] => List.Sublist.refl _
  | j :: r => by
    rw [rowGo]
    refine List.Sublist.cons_cons j ?_
    split
    · exact rowGo_sub
    · exact List.nil_sublist _
theorem rowF_nodup (free : List Nat) (M i : Nat) : (rowF free M i).Nodup := List.Sublist.nodup rowGo_sub (List.nodup_range' (h := by decide))
theorem nextsF_len (free : List Nat) (M : Nat) : (nextsF free M).length = M - 1 := by simp [nextsF]
theorem nxA_nextsF (free : List Nat) (M i : Nat) : nxA (nextsF free M) i = if i < M - 1 then rowF free M i else [] := by
  unfold nxA nextsF
  by_cases h : i < M - 1
  · simp [h]
  · simp [h]
theorem nx_nodup (free : List Nat) (M i : Nat) : (nxA (nextsF free M) i).Nodup := by
  rw [nxA_nextsF]; split
  · exact rowF_nodup _ _ _
  · exact List.nodup_nil
theorem mem_nx {free : List Nat} {M i j : Nat} : j ∈ nxA (nextsF free M) i ↔ i < M - 1 ∧ i < j ∧ j < M ∧ ∀ k, i < k → k < j → k ∈ free := by
  rw [nxA_nextsF]
  by_cases h : i < M - 1
  · rw [if_pos h, mem_rowF]; exact ⟨fun e => ⟨h, e⟩, fun e => e.2⟩
  · rw [if_neg h]; simp [h]
theorem mem_nx_succ {free : List Nat} {M i j : Nat} (hj : j + 1 < M) : j + 1 ∈ nxA (nextsF free M) i ↔ i = j ∨ (j ∈ free ∧ j ∈ nxA (nextsF free M) i) := by
  rw [mem_nx, mem_nx]
  constructor
  · rintro ⟨h1, h2, h3, h4⟩
    by_cases e : i = j
    · exact .inl e
    · exact .inr ⟨h4 j (by omega) (by omega), h1, by omega, by omega, fun k h5 h6 => h4 k h5 (by omega)⟩
  · rintro (rfl | ⟨h0, h1, h2, h3, h4⟩)
    · exact ⟨by omega, by omega, hj, fun k h5 h6 => by omega⟩
    · refine ⟨h1, by omega, hj, fun k h5 h6 => ?_⟩
      by_cases e : k = j
      · rw [e]; exact h0
      · exact h4 k h5 (by omega)

/-! ## counting texts -/
def toL (t : Str) : List Nat := t.cps.toList
theorem toL_append (a b : Str) : toL (a ++ b) = toL a ++ toL b := by
  show (a.cps ++ b.cps).toList = _
  simp [toL]
def TL (sg : List Str) (free : List Nat) (n : Nat) : List (List Nat) := (textsG sg free n).map toL
def SL (sg : List Str) (free : List Nat) : Nat → List (List Nat)
  | 0 => [[]]
  | j + 1 => (TL sg free j).map (· ++ toL (sgA sg (j + 1)))
theorem TL_zero (sg : List Str) (free : List Nat) : TL sg free 0 = [[]] := rfl
theorem TL_succ (sg : List Str) (free : List Nat) (n : Nat) : TL sg free (n + 1) = (if n + 1 ∈ free then TL sg free n else []) ++ SL sg free (n + 1) := by
  unfold TL SL
  rw [textsG_succ]
  unfold textsStep TL
  split
  · simp [Function.comp_def, toL_append]
  · simp [Function.comp_def, toL_append]
/-- what is asked of the strip -/
structure Gr (sg : List Str) : Prop where
  two : 2 ≤ sg.length
  ch : ∀ j, 1 ≤ j → j < sg.length - 1 → ∃ d, sgA sg j = ⟨#[d]⟩ ∧ d ∈ [97, 44, 34, 92, 32, 98, 9]
  zero : sgA sg 0 = ⟨#[]⟩
  last : ∀ j, sg.length - 1 ≤ j → sgA sg j = ⟨#[]⟩
section
variable {sg : List Str} {free : List Nat} (H : Gr sg)
theorem TL_count (P : List Nat → Bool) : ∀ n, n + 1 < sg.length → (TL sg free n).countP P = sm (n + 1) (fun i => if n + 1 ∈ nxA (nextsF free sg.length) i then (SL sg free i).countP P else 0)
  | 0, h => by
    rw [sm_succ, sm_zero, if_pos (mem_nx.mpr ⟨by omega, by omega, by omega, fun k h1 h2 => by omega⟩)]
    simp [TL_zero, SL]
  | n + 1, h => by
    rw [TL_succ, List.countP_append, sm_succ, if_pos ((mem_nx_succ h).mpr (.inl rfl))]
    refine congrArg (· + _) ?_
    by_cases hf : n + 1 ∈ free
    · rw [if_pos hf, TL_count P n (by omega)]
      refine sm_congr fun i hi => ?_
      have : (n + 1 + 1 ∈ nxA (nextsF free sg.length) i) ↔ n + 1 ∈ nxA (nextsF free sg.length) i := by
        rw [mem_nx_succ h]
        exact ⟨fun e => e.elim (fun e => by omega) fun e => e.2, fun e => .inr ⟨hf, e⟩⟩
      simp only [this]
    · rw [if_neg hf, List.countP_nil]
      refine (sm_nil fun i hi => if_neg ?_).symm
      rw [mem_nx_succ h]
      rintro (e | e)
      · omega
      · exact hf e.1
def Cn (sg : List Str) (free : List Nat) (P : List Nat → Bool) (j : Nat) : Nat := if j < sg.length - 1 then (SL sg free j).countP P else 0
theorem Cn_sum (P : List Nat → Bool) {j n : Nat} (hj : 1 ≤ j) (hjM : j < sg.length) (hn : j ≤ n) : sm n (fun i => if j ∈ nxA (nextsF free sg.length) i then Cn sg free P i else 0) = (TL sg free (j - 1)).countP P := by
  rw [TL_count P (j - 1) (by omega)]
  have e : j - 1 + 1 = j := by omega
  rw [e, sm_trunc (m := j) hn fun i h1 _ => if_neg (by rw [mem_nx]; omega)]
  refine sm_congr fun i hi => ?_
  split
  · unfold Cn; rw [if_pos (by omega)]
  · rfl
theorem ends_C (h2 : 2 ≤ sg.length) (P : List Nat → Bool) : endsF (nextsF free sg.length) (Cn sg free P) = (TL sg free (sg.length - 2)).countP P := by
  unfold endsF
  rw [nextsF_len]
  have := Cn_sum (sg := sg) (free := free) P (j := sg.length - 1) (n := sg.length - 1) (by omega) (by omega) (Nat.le_refl _)
  have e : sg.length - 1 - 1 = sg.length - 2 := by omega
  rw [e] at this
  exact this
/-- a list of wished signs, as a test of code points -/
structure Wish (W : List Str) (f : Nat → Bool) : Prop where
  nil : okS W ⟨#[]⟩ = false
  ch : ∀ d ∈ [97, 44, 34, 92, 32, 98, 9], okS W ⟨#[d]⟩ = f d
theorem count_map_snoc {P Q : List Nat → Bool} {d : Nat} {b : Bool} (h : ∀ u, Q (u ++ [d]) = (b && P u)) (L : List (List Nat)) : (L.map (· ++ [d])).countP Q = if b then L.countP P else 0 := by
  rw [List.countP_map]
  cases b
  · simp only [Bool.false_and] at h
    rw [if_neg (by simp)]
    exact List.countP_eq_zero.mpr fun u _ => by simp [h]
  · simp only [Bool.true_and] at h
    rw [if_pos rfl]
    exact congrArg (fun f => List.countP f L) (funext h)
include H in
theorem used_C {W : List Str} {f : Nat → Bool} {P Q : List Nat → Bool} (hW : Wish W f) (h0 : Q [] = false) (hs : ∀ u d, Q (u ++ [d]) = (f d && P u)) :
    usedF sg (nextsF free sg.length) W (Cn sg free P) = Cn sg free Q := by
  funext j
  unfold usedF
  rw [nextsF_len]
  by_cases hj : j < sg.length - 1
  · cases j with
    | zero =>
      rw [H.zero, hW.nil]
      simp [Cn, SL, h0]
    | succ j =>
      obtain ⟨d, e, hd⟩ := H.ch (j + 1) (by omega) hj
      rw [e, hW.ch d hd]
      have hsum := Cn_sum (sg := sg) (free := free) P (j := j + 1) (n := sg.length - 1) (by omega) (by omega) (by omega)
      unfold sm at hsum
      rw [hsum]
      unfold Cn
      rw [if_pos hj]
      show _ = List.countP Q ((TL sg free j).map (· ++ toL (sgA sg (j + 1))))
      rw [e]
      show _ = List.countP Q ((TL sg free j).map (· ++ [d]))
      rw [count_map_snoc fun u => hs u d]
      rfl
  · rw [H.last j (by omega), hW.nil]
    unfold Cn
    rw [if_neg hj]; rfl
theorem Cn_or {P Q : List Nat → Bool} (h : ∀ u, (P u && Q u) = false) : (fun i => Cn sg free P i + Cn sg free Q i) = Cn sg free (fun u => P u || Q u) := by
  have key : ∀ L : List (List Nat), L.countP P + L.countP Q = L.countP (fun u => P u || Q u) := by
    intro L
    induction L with
    | nil => rfl
    | cons u r ih =>
      have := h u
      rw [List.countP_cons, List.countP_cons, List.countP_cons]
      revert this
      cases P u <;> cases Q u <;> simp <;> omega
  funext j
  unfold Cn
  split
  · exact key _
  · rfl
theorem Cn_zero : (fun _ => 0) = Cn sg free (fun _ => false) := by
  funext j
  unfold Cn
  split
  · simp
  · rfl

/-! ### white -/
theorem whiteJ_val {nx : List (List Nat)} {esc : Bool} {v x : Nat} (hrow : ∀ i, (nxA nx i).Nodup) : ∀ {row : List Nat} (acc : Nat → Nat), row.Nodup →
    whiteJ sg nx esc v acc row x = acc x + if okS wS (sgA sg x) then (if x ∈ row then v else 0) + (if esc then (row.map fun j => if sgA sg j == bS then (if x ∈ nxA nx j then v else 0) else 0).sum else 0) else 0
  | [], acc, _ => by cases esc <;> simp [whiteJ]
  | j :: r, acc, hn => by
    obtain ⟨h1, h2⟩ := List.nodup_cons.mp hn
    show whiteJ sg nx esc v (if okS wS (sgA sg j) then bump acc j v else if esc && (sgA sg j == bS) then usedRow sg wS v acc (nxA nx j) else acc) r x = _
    rw [whiteJ_val hrow _ h2]
    by_cases hw : okS wS (sgA sg j) = true
    · have hb : (sgA sg j == bS) = false := by
        cases hb : (sgA sg j == bS) with
        | false => rfl
        | true => rw [eq_of_beq hb] at hw; exact absurd hw (by decide)
      have hb' : ¬ sgA sg j = bS := by simpa using hb
      rw [if_pos hw]
      by_cases hx : x = j
      · subst hx
        simp [hw, h1, hb', bump, setF]; omega
      · have : bump acc j v x = acc x := by simp [bump, setF, hx]
        rw [this]
        simp [hx, hb']
    · rw [if_neg hw]
      by_cases hb : (sgA sg j == bS) = true
      · cases esc
        · simp only [hb, Bool.false_and]
          by_cases hx : x = j
          · subst hx; simp [hw]
          · simp [hx]
        · simp only [hb, Bool.true_and, if_true, List.map_cons, List.sum_cons]
          rw [usedRow_val _ (hrow j)]
          by_cases hx : x = j
          · subst hx; simp [hw]
          · by_cases hwx : okS wS (sgA sg x) = true
            · by_cases hm : x ∈ nxA nx j <;> simp [hx, hwx, hm] <;> omega
            · simp [hwx]
      · by_cases hx : x = j
        · subst hx; simp [hw, hb]
        · have hb' : ¬ sgA sg j = bS := by simpa using hb
          simp [hx, hb']
def bn (b : Bool) : Nat := if b then 1 else 0
theorem countP_bn (P : List Nat → Bool) (u : List Nat) (r : List (List Nat)) : (u :: r).countP P = r.countP P + bn (P u) := List.countP_cons
theorem count_white {P Q Q' : List Nat → Bool} {esc : Bool} {d : Nat} (hs : ∀ u, bn (Q (u ++ [d])) = bn (P (u ++ [d])) + if spN d then bn (Q u) + (if esc then bn (Q' u) else 0) else 0) (L : List (List Nat)) :
    (L.map (· ++ [d])).countP Q = (L.map (· ++ [d])).countP P + if spN d then L.countP Q + (if esc then L.countP Q' else 0) else 0 := by
  induction L with
  | nil => cases esc <;> simp
  | cons u r ih =>
    rw [List.map_cons, countP_bn, countP_bn, countP_bn, countP_bn, ih, hs u]
    cases spN d <;> cases esc <;> simp <;> omega
theorem okW : Wish wS spN := ⟨by decide, by decide +kernel⟩
include H in
theorem white_C {P Q Q' : List Nat → Bool} {esc : Bool} (h0 : Q [] = P []) (hs : ∀ u d, bn (Q (u ++ [d])) = bn (P (u ++ [d])) + if spN d then bn (Q u) + (if esc then bn (Q' u) else 0) else 0)
    (hq : esc = true → usedF sg (nextsF free sg.length) [bS] (Cn sg free Q) = Cn sg free Q') : whF sg (nextsF free sg.length) esc (Cn sg free P) = Cn sg free Q := by
  have h2 := H.two
  have key : ∀ n x, x ≤ n → Cn sg free P x + (if okS wS (sgA sg x) then sm n (fun i => (if x ∈ nxA (nextsF free sg.length) i then Cn sg free Q i else 0) +
      (if esc then ((nxA (nextsF free sg.length) i).map fun j => if sgA sg j == bS then (if x ∈ nxA (nextsF free sg.length) j then Cn sg free Q i else 0) else 0).sum else 0)) else 0) = Cn sg free Q x := by
    intro n x hx
    by_cases hxN : x < sg.length - 1
    · cases x with
      | zero =>
        rw [H.zero, okW.nil]
        simp [Cn, SL, h0]
      | succ x =>
        obtain ⟨d, e, hd⟩ := H.ch (x + 1) (by omega) hxN
        rw [e, okW.ch d hd]
        have e1 : Cn sg free P (x + 1) = ((TL sg free x).map (· ++ [d])).countP P := by
          unfold Cn; rw [if_pos hxN]; show List.countP P ((TL sg free x).map (· ++ toL (sgA sg (x + 1)))) = _; rw [e]; rfl
        have e2 : Cn sg free Q (x + 1) = ((TL sg free x).map (· ++ [d])).countP Q := by
          unfold Cn; rw [if_pos hxN]; show List.countP Q ((TL sg free x).map (· ++ toL (sgA sg (x + 1)))) = _; rw [e]; rfl
        rw [e1, e2, count_white (esc := esc) (fun u => hs u d) (TL sg free x)]
        refine congrArg (HAdd.hAdd _) ?_
        by_cases hsp : spN d = true
        · rw [if_pos hsp, if_pos hsp, sm_add, Cn_sum Q (by omega) (by omega) hx]
          refine congrArg (HAdd.hAdd _) ?_
          cases hesc : esc
          · simp only [Bool.false_eq_true, if_false]; exact sm_nil fun _ _ => rfl
          · simp only [if_true]
            have hq' := hq hesc
            have s1 := Cn_sum (sg := sg) (free := free) Q' (j := x + 1) (n := sg.length) (by omega) (by omega) (by omega)
            rw [← hq'] at s1
            show _ = List.countP Q' (TL sg free (x + 1 - 1))
            rw [← s1]
            have s2 : ∀ i, ((nxA (nextsF free sg.length) i).map fun j => if sgA sg j == bS then (if x + 1 ∈ nxA (nextsF free sg.length) j then Cn sg free Q i else 0) else 0).sum
                = sm sg.length (fun j => if j ∈ nxA (nextsF free sg.length) i then (if sgA sg j == bS then (if x + 1 ∈ nxA (nextsF free sg.length) j then Cn sg free Q i else 0) else 0) else 0) := fun i =>
              sm_row _ (nx_nodup _ _ _) fun j hj => (mem_nx.mp hj).2.2.1
            rw [sm_congr (fun i _ => s2 i), sm_swap]
            refine sm_congr fun j hj => ?_
            by_cases hxj : x + 1 ∈ nxA (nextsF free sg.length) j
            · rw [if_pos hxj]
              have hjx := (mem_nx.mp hxj).2.1
              have hjN := (mem_nx.mp hxj).1
              unfold usedF
              have ho : okS [bS] (sgA sg j) = (sgA sg j == bS) := by
                unfold okS
                rw [List.any_cons, List.any_nil, Bool.or_false, Bool.eq_iff_iff, beq_iff_eq, beq_iff_eq]; exact eq_comm
              rw [ho]
              by_cases hb : (sgA sg j == bS) = true
              · rw [if_pos hb, nextsF_len]
                simp only [hb, if_true, if_pos hxj]
                show sm n _ = sm (sg.length - 1) _
                have z : ∀ i, j ≤ i → (if j ∈ nxA (nextsF free sg.length) i then Cn sg free Q i else 0) = 0 := fun i hi => if_neg (by rw [mem_nx]; omega)
                rw [sm_trunc (n := n) (m := j) (by omega) fun i h1 _ => z i h1, sm_trunc (n := sg.length - 1) (m := j) (by omega) fun i h1 _ => z i h1]
              · rw [if_neg hb]
                simp only [hb]
                exact sm_nil fun i _ => by simp
            · rw [if_neg hxj]
              exact sm_nil fun i _ => by simp [hxj]
        · rw [if_neg hsp, if_neg hsp]
    · rw [H.last x (by omega), okW.nil]
      unfold Cn
      rw [if_neg hxN, if_neg hxN]; rfl
  have run : ∀ n x, whiteL sg (nextsF free sg.length) esc (Cn sg free P) n x = Cn sg free P x + (if okS wS (sgA sg x) then sm n (fun i => (if x ∈ nxA (nextsF free sg.length) i then Cn sg free Q i else 0) +
      (if esc then ((nxA (nextsF free sg.length) i).map fun j => if sgA sg j == bS then (if x ∈ nxA (nextsF free sg.length) j then Cn sg free Q i else 0) else 0).sum else 0)) else 0) := by
    intro n
    induction n with
    | zero => intro x; simp [whiteL, sm_zero]
    | succ n ih =>
      intro x
      have hst : whiteL sg (nextsF free sg.length) esc (Cn sg free P) (n + 1) = whiteJ sg (nextsF free sg.length) esc (whiteL sg (nextsF free sg.length) esc (Cn sg free P) n n) (whiteL sg (nextsF free sg.length) esc (Cn sg free P) n) (nxA (nextsF free sg.length) n) := by
        unfold whiteL; rw [List.range_succ, List.foldl_append]; rfl
      rw [hst, ih n, key n n (Nat.le_refl _), whiteJ_val (fun i => nx_nodup _ _ i) _ (nx_nodup _ _ _), ih x]
      by_cases hw : okS wS (sgA sg x) = true
      · rw [if_pos hw, if_pos hw, if_pos hw, sm_succ]; omega
      · rw [if_neg hw, if_neg hw, if_neg hw]
  funext x
  unfold whF
  rw [run, nextsF_len]
  by_cases hx : x < sg.length - 1
  · exact key _ x (by omega)
  · rw [H.last x (by omega), okW.nil]
    unfold Cn
    rw [if_neg hx, if_neg hx]; rfl
end
end Mine

namespace Mine
open PySem PySem.Calls PyProof.Rows PySem.W

/-! ## the writings, counted -/
theorem snoc_cases {P : List Nat → Prop} (h0 : P []) (hs : ∀ u d, P (u ++ [d])) (t : List Nat) : P t := by
  by_cases h : t = []
  · rw [h]; exact h0
  · rw [← List.dropLast_concat_getLast h]; exact hs _ _
theorem wish1 (s : Nat) : Wish [⟨#[s]⟩] (fun d => decide (d = s)) := by
  constructor
  · simp [okS]
  · intro d _
    unfold okS
    rw [List.any_cons, List.any_nil, Bool.or_false, Bool.eq_iff_iff, beq_iff_eq, decide_eq_true_iff]
    constructor
    · intro e; injection e with e; have := congrArg Array.toList e; simpa using this.symm
    · rintro rfl; rfl
def aft (s : Nat) (P : List Nat → Bool) (t : List Nat) : Bool := match t.getLast? with
  | none => false
  | some d => decide (d = s) && P t.dropLast
theorem aft_nil (s : Nat) (P : List Nat → Bool) : aft s P [] = false := rfl
theorem aft_snoc (s : Nat) (P : List Nat → Bool) (u : List Nat) (d : Nat) : aft s P (u ++ [d]) = (decide (d = s) && P u) := by simp [aft]

section
variable {sg : List Str} {free : List Nat} (H : Gr sg)
include H in
theorem used_1 {s : Nat} {P Q : List Nat → Bool} (h0 : Q [] = false) (hs : ∀ u d, Q (u ++ [d]) = (decide (d = s) && P u)) : usedF sg (nextsF free sg.length) [⟨#[s]⟩] (Cn sg free P) = Cn sg free Q :=
  used_C H (wish1 s) h0 hs
include H in
theorem used_or {s : Nat} {P1 P2 Q : List Nat → Bool} (h0 : Q [] = false) (hs : ∀ u d, Q (u ++ [d]) = (decide (d = s) && (P1 u || P2 u))) (hd : ∀ u, (P1 u && P2 u) = false) :
    (fun i => usedF sg (nextsF free sg.length) [⟨#[s]⟩] (Cn sg free P1) i + usedF sg (nextsF free sg.length) [⟨#[s]⟩] (Cn sg free P2) i) = Cn sg free Q := by
  rw [used_1 H (aft_nil s P1) (aft_snoc s P1), used_1 H (aft_nil s P2) (aft_snoc s P2), Cn_or]
  · refine congrArg (Cn sg free) (funext fun t => ?_)
    refine snoc_cases (P := fun t => (aft s P1 t || aft s P2 t) = Q t) ?_ (fun u d => ?_) t
    · rw [h0]; rfl
    · rw [hs, aft_snoc, aft_snoc, Bool.and_or_distrib_left]
  · intro t
    refine snoc_cases (P := fun t => (aft s P1 t && aft s P2 t) = false) rfl (fun u d => ?_) t
    rw [aft_snoc, aft_snoc]
    have := hd u
    revert this
    cases P1 u <;> cases P2 u <;> simp

/-- the predicates -/
def pD (its : List (List Nat)) (q e : Bool) (f : List Nat → Bool) (t : List Nat) : Bool := D (isR its) q e f (lsOf t)
def pB_ (its : List (List Nat)) (t : List Nat) : Bool := Bg (isR its) (lsOf t)
theorem pD_snoc (its : List (List Nat)) (q e : Bool) (f : List Nat → Bool) (u : List Nat) (d : Nat) : pD its q e f (u ++ [d]) = D (isR its) q e f (lStep (lsOf u) d) := by unfold pD; rw [lsOf_snoc]
theorem pD_nilq (its : List (List Nat)) (e : Bool) (f : List Nat → Bool) : pD its true e f [] = false := by simp [pD, D, lsOf, ls0]
theorem pD_nil {its : List (List Nat)} {q e : Bool} {f : List Nat → Bool} (h : f [] = false) : pD its q e f [] = false := by simp [pD, D, lsOf, ls0, h]
theorem disj_qe (its : List (List Nat)) (q e q' e' : Bool) (f f' : List Nat → Bool) (h : (q, e) ≠ (q', e')) (u : List Nat) : (pD its q e f u && pD its q' e' f' u) = false := by
  unfold pD D
  generalize isR its (lsOf u).res = a
  generalize f (lsOf u).part = b
  generalize f' (lsOf u).part = c
  generalize (lsOf u).quote = x
  generalize (lsOf u).esc = y
  revert h
  revert a b c x y q e q' e'
  decide
theorem qS_eq : qS = ⟨#[34]⟩ := by decide
theorem bS_eq : bS = ⟨#[92]⟩ := by decide
theorem cS_eq : cS = ⟨#[44]⟩ := by decide
theorem one_beq (a b : Nat) : ((⟨#[a]⟩ : Str) == ⟨#[b]⟩) = decide (a = b) := by
  rw [Bool.eq_iff_iff, beq_iff_eq, decide_eq_true_iff]
  constructor
  · intro e; injection e with e; have := congrArg Array.toList e; simpa using this
  · rintro rfl; rfl
include H in
theorem slash_C (its : List (List Nat)) (f : List Nat → Bool) : usedF sg (nextsF free sg.length) [bS] (Cn sg free (pD its true false f)) = Cn sg free (pD its true true f) := by
  rw [bS_eq]
  exact used_1 H (pD_nilq _ _ _) fun u d => by rw [pD_snoc, st_slash (inv_of u)]; rfl
include H in
theorem sign_C (its : List (List Nat)) (y : List Nat) (s : Nat) (hy : y = [] → spN s = false) :
    signStep sg (nextsF free sg.length) (Cn sg free (pD its false false (isL y)), Cn sg free (pD its true false (isL y))) ⟨#[s]⟩ = (Cn sg free (pD its false false (isL (y ++ [s]))), Cn sg free (pD its true false (isL (y ++ [s])))) := by
  unfold signStep
  simp only [slash_C H]
  rw [qS_eq, bS_eq, cS_eq, one_beq, one_beq, one_beq]
  have n0 : ∀ s, pD its false false (isL (y ++ [s])) [] = false := fun s => pD_nil (isL_nil _ _)
  have n1 : ∀ s, pD its true false (isL (y ++ [s])) [] = false := fun s => pD_nil (isL_nil _ _)
  by_cases h34 : s = 34
  · subst h34
    simp only [decide_true, if_true]
    rw [used_1 H (n0 34) (fun u d => by rw [pD_snoc, st_outQ (inv_of u)]; rfl),
      used_or H (n1 34) (fun u d => by rw [pD_snoc, st_inQ (inv_of u)]; rfl) (disj_qe its _ _ _ _ _ _ (by decide))]
  · simp only [h34, decide_false, Bool.false_eq_true, if_false]
    by_cases h92 : s = 92
    · subst h92
      simp only [decide_true, if_true]
      rw [used_1 H (n0 92) (fun u d => by rw [pD_snoc, st_out (inv_of u) hy (by decide) (by decide)]; rfl),
        used_1 H (n1 92) (fun u d => by rw [pD_snoc, st_inB (inv_of u)]; rfl)]
    · simp only [h92, decide_false, Bool.false_eq_true, if_false]
      have h2 := used_or (free := free) H (n1 s) (fun u d => by rw [pD_snoc, st_in (inv_of u) hy h34 h92]; rfl) (disj_qe its _ _ _ _ _ _ (by decide))
      by_cases h44 : s = 44
      · subst h44
        simp only [decide_true, if_true]
        rw [h2]
        refine Prod.ext ?_ rfl
        show (fun _ => 0) = _
        rw [Cn_zero (sg := sg) (free := free)]
        refine congrArg (Cn sg free) (funext fun t => ?_)
        refine snoc_cases (P := fun t => false = pD its false false (isL (y ++ [44])) t) (n0 44).symm (fun u d => ?_) t
        rw [pD_snoc, st_outC (inv_of u)]
      · simp only [h44, decide_false, Bool.false_eq_true, if_false]
        rw [h2, used_1 H (n0 s) (fun u d => by rw [pD_snoc, st_out (inv_of u) hy h34 h44]; rfl)]
include H in
theorem signs_C (its : List (List Nat)) : ∀ (cs y : List Nat), (y = [] → ∀ s r, cs = s :: r → spN s = false) →
    (cs.map fun c => (⟨#[c]⟩ : Str)).foldl (signStep sg (nextsF free sg.length)) (Cn sg free (pD its false false (isL y)), Cn sg free (pD its true false (isL y))) = (Cn sg free (pD its false false (isL (y ++ cs))), Cn sg free (pD its true false (isL (y ++ cs))))
  | [], y, _ => by simp
  | s :: r, y, h => by
    rw [List.map_cons, List.foldl_cons, sign_C H its y s fun e => h e s r rfl, signs_C its r (y ++ [s]) (fun e => by simp at e)]
    simp
include H in
theorem item_C (its : List (List Nat)) (x : Str) (hx : Stp (toL x)) :
    itemF sg (nextsF free sg.length) (Cn sg free (pB_ its)) (chS x) = (Cn sg free (pD its false false (isL (toL x))), Cn sg free (pD its true false (isL (toL x)))) := by
  have h1 : whF sg (nextsF free sg.length) false (Cn sg free (pB_ its)) = Cn sg free (pD its false false (isL [])) := by
    refine white_C H (Q' := fun _ => false) ?_ (fun u d => ?_) (fun h => nomatch h)
    · simp [pD, pB_, D, Bg, lsOf, ls0, isL, lstr]
    · rw [pD_snoc, st_begin (inv_of u)]
      unfold pB_
      rw [lsOf_snoc]
      by_cases hd : spN d = true
      · rw [st_beginN (inv_of u) hd]; simp only [hd, if_true, Bool.false_eq_true, if_false, bn, pD]; simp; rfl
      · simp [hd]
  have h2 : (fun _ => 0) = Cn sg free (pD its true false (isL [])) := by
    rw [Cn_zero (sg := sg) (free := free)]
    exact congrArg (Cn sg free) (funext fun t => (st_noquote (inv_of t) false).symm)
  unfold itemF
  rw [h1, h2]
  have := signs_C (free := free) H its (toL x) [] (fun _ s r e => hx.fst s r e)
  simpa [chS, toL] using this
theorem isT_0 : isT [] = isL [] := by
  funext p; unfold isT isL; rw [Bool.eq_iff_iff, decide_eq_true_iff, decide_eq_true_iff]; exact lstr_nil_iff p
theorem eS_eq : eS = ⟨#[]⟩ := by decide
theorem toL_nil {x : Str} : toL x = [] ↔ x = eS := by
  rw [eS_eq]
  constructor
  · intro h; obtain ⟨a⟩ := x; have : a = #[] := by simpa [toL] using h
    rw [this]
  · rintro rfl; rfl
include H in
theorem after_C (its : List (List Nat)) (x : Str) (hx : Stp (toL x)) : afterF sg (nextsF free sg.length) (Cn sg free (pB_ its)) x = Cn sg free (pD its false false (isT (toL x))) := by
  unfold afterF
  rw [item_C H its x hx]
  by_cases h : x = eS
  · have hn := toL_nil.mpr h
    rw [hn, isT_0, h]; rfl
  · have hn : toL x ≠ [] := fun e => h (toL_nil.mp e)
    have hb : (x != eS) = true := by simpa using h
    rw [if_pos hb]
    refine white_C H (Q' := fun _ => false) ?_ (fun u d => ?_) (fun h => nomatch h)
    · rw [pD_nil (isT_nil hn), pD_nil (isL_nil' hn)]
    · rw [pD_snoc, pD_snoc, st_after (inv_of u) hx hn]
      by_cases hd : spN d = true
      · rw [st_afterN (inv_of u) hx hn hd]; simp only [hd, if_true, Bool.false_eq_true, if_false, bn, pD]; simp; rfl
      · simp [hd]
include H in
theorem open_C (its : List (List Nat)) (x : Str) (hx : Stp (toL x)) (hn : toL x ≠ []) : openF sg (nextsF free sg.length) (itemF sg (nextsF free sg.length) (Cn sg free (pB_ its)) (chS x)).2 = Cn sg free (fun t => pD its true false (isT (toL x)) t || pD its true true (isT (toL x)) t) := by
  unfold openF
  rw [item_C H its x hx]
  have h1 : whF sg (nextsF free sg.length) true (Cn sg free (pD its true false (isL (toL x)))) = Cn sg free (pD its true false (isT (toL x))) := by
    refine white_C H (Q' := pD its true true (isT (toL x))) ?_ (fun u d => ?_) (fun _ => slash_C H _ _)
    · rw [pD_nilq, pD_nilq]
    · rw [pD_snoc, pD_snoc, st_open (inv_of u) hn]
      by_cases hd : spN d = true
      · rw [st_afterN (inv_of u) hx hn hd]
        have := disj_qe its true false true true (isT (toL x)) (isT (toL x)) (by decide) u
        simp only [hd, if_true]
        unfold pD at *
        revert this
        cases D (isR its) true false (isT (toL x)) (lsOf u) <;> cases D (isR its) true true (isT (toL x)) (lsOf u) <;> simp [bn]
      · simp [hd]
  dsimp only
  rw [h1, slash_C H]
  exact Cn_or (disj_qe its true false true true _ _ (by decide))
include H in
theorem one_C : oneF = Cn sg free (pB_ []) := by
  have h2 := H.two
  funext j
  unfold oneF Cn
  cases j with
  | zero => rw [if_pos rfl, if_pos (by omega)]; rfl
  | succ j =>
    rw [if_neg (by omega)]
    split
    · rename_i hj
      obtain ⟨d, e, _⟩ := H.ch (j + 1) (by omega) hj
      show 0 = List.countP _ ((TL sg free j).map (· ++ toL (sgA sg (j + 1))))
      rw [e]
      show 0 = List.countP _ ((TL sg free j).map (· ++ [d]))
      rw [List.countP_map]
      refine (List.countP_eq_zero.mpr fun u _ => ?_).symm
      show ¬ pB_ [] (u ++ [d]) = true
      unfold pB_
      rw [lsOf_snoc, st_start (inv_of u)]; simp
    · rfl
include H in
theorem turn_C (its : List (List Nat)) (x : Str) (hx : Stp (toL x)) : usedF sg (nextsF free sg.length) [cS] (afterF sg (nextsF free sg.length) (Cn sg free (pB_ its)) x) = Cn sg free (pB_ (its ++ [toL x])) := by
  rw [after_C H its x hx, cS_eq]
  refine used_1 H ?_ fun u d => ?_
  · simp [pB_, Bg, lsOf, ls0, isR]
  · unfold pB_; rw [lsOf_snoc, st_comma (inv_of u)]; rfl
include H in
theorem fold_C (items : List Str) (hi : ∀ x ∈ items, Stp (toL x)) : ∀ k, k ≤ items.length → (foldW sg (nextsF free sg.length) items k).1 = Cn sg free (pB_ ((items.take k).map toL))
  | 0, _ => by simpa [foldW] using one_C H
  | k + 1, hk => by
    have hstep : foldW sg (nextsF free sg.length) items (k + 1) = turnF sg (nextsF free sg.length) items (foldW sg (nextsF free sg.length) items k) k := by unfold foldW; rw [List.range_succ, List.foldl_append]; rfl
    rw [hstep]
    unfold turnF
    have hx : itAt items k = items[k] := by simp [itAt, List.getD_eq_getElem?_getD, List.getElem?_eq_getElem (show k < items.length by omega)]
    dsimp only
    rw [fold_C items hi k (by omega), hx, turn_C H _ _ (hi _ (List.getElem_mem _))]
    refine congrArg (fun l => Cn sg free (pB_ l)) ?_
    rw [List.take_add_one, List.getElem?_eq_getElem (show k < items.length by omega), List.map_append]
    rfl
end

/-! ## the whole count -/
def parseL (t : List Nat) : List (List Nat) := ((if (lsOf t).part = [] then (lsOf t).res else (lsOf t).res ++ [(lsOf t).part])).map strp
theorem parse_last0 (its : List (List Nat)) (t : List Nat) : bn (decide (parseL t = its ++ [[]])) + bn (pB_ its t) = bn (pD its false false (isT []) t) + bn (pB_ (its ++ [[]]) t) := by
  have h := inv_of t
  unfold parseL pB_ pD D Bg
  generalize lsOf t = σ at *
  obtain ⟨res, part, esc, quote⟩ := σ
  have h1 := h.e
  have h2 := h.q
  dsimp only at *
  by_cases hp : part = []
  · subst hp
    cases quote
    · cases esc
      · simp [isT, strp, lstr, isR]; omega
      · cases h1 rfl
    · cases h2 rfl
  · rw [if_neg hp, List.map_append, List.map_cons, List.map_nil]
    have e : (List.map strp res ++ [strp part] = its ++ [[]]) ↔ (List.map strp res = its ∧ strp part = []) := by
      constructor
      · intro e; have := List.append_inj' e rfl; exact ⟨this.1, by simpa using this.2⟩
      · rintro ⟨rfl, e⟩; rw [e]
    have hp' : part.isEmpty = false := by simpa using hp
    cases quote
    · cases esc
      · simp only [e, hp', isR, isT]
        by_cases a : List.map strp res = its <;> by_cases b : strp part = [] <;> simp [a, b, bn]
      · cases h1 rfl
    · have hq : strp part ≠ [] := fun e => lstr_ne (h2 rfl) ((lstr_nil_iff _).mp e)
      simp only [e, hp', isR, isT]
      simp [hq, bn]
theorem parse_last (its : List (List Nat)) (x t : List Nat) (hn : x ≠ []) : bn (decide (parseL t = its ++ [x])) = bn (pD its false false (isT x) t) + bn (pD its true false (isT x) t || pD its true true (isT x) t) + bn (pB_ (its ++ [x]) t) := by
  have h := inv_of t
  unfold parseL pB_ pD D Bg
  generalize lsOf t = σ at *
  obtain ⟨res, part, esc, quote⟩ := σ
  have h1 := h.e
  have h2 := h.q
  dsimp only at *
  by_cases hp : part = []
  · subst hp
    simp [isT_nil hn, isR, bn]
  · rw [if_neg hp, List.map_append, List.map_cons, List.map_nil]
    have e : (List.map strp res ++ [strp part] = its ++ [x]) ↔ (List.map strp res = its ∧ strp part = x) := by
      constructor
      · intro e; have := List.append_inj' e rfl; exact ⟨this.1, by simpa using this.2⟩
      · rintro ⟨rfl, e⟩; rw [e]
    have hp' : part.isEmpty = false := by simpa using hp
    simp only [e, hp', isR, isT]
    by_cases a : List.map strp res = its <;> by_cases b : strp part = x
    · cases esc <;> cases quote <;> first | (cases h1 rfl; done) | simp [a, b, bn]
    all_goals simp [a, b, bn]
theorem parse_nil (t : List Nat) : decide (parseL t = []) = pB_ [] t := by
  unfold parseL pB_ Bg isR
  by_cases hp : (lsOf t).part = []
  · simp [hp]
  · simp [hp]
theorem count_sum {P1 P2 Q1 Q2 : List Nat → Bool} (h : ∀ t, bn (P1 t) + bn (P2 t) = bn (Q1 t) + bn (Q2 t)) (L : List (List Nat)) : L.countP P1 + L.countP P2 = L.countP Q1 + L.countP Q2 := by
  induction L with
  | nil => rfl
  | cons u r ih => rw [countP_bn, countP_bn, countP_bn, countP_bn]; have := h u; omega
theorem count_sum3 {P Q1 Q2 Q3 : List Nat → Bool} (h : ∀ t, bn (P t) = bn (Q1 t) + bn (Q2 t) + bn (Q3 t)) (L : List (List Nat)) : L.countP P = L.countP Q1 + L.countP Q2 + L.countP Q3 := by
  induction L with
  | nil => rfl
  | cons u r ih => rw [countP_bn, countP_bn, countP_bn, countP_bn]; have := h u; omega
theorem writ_C {sg : List Str} {free : List Nat} (H : Gr sg) (items : List Str) (hi : ∀ x ∈ items, Stp (toL x)) :
    writF sg (nextsF free sg.length) items = ((TL sg free (sg.length - 2)).countP (fun t => decide (parseL t = items.map toL)) : Int) := by
  unfold writF
  rw [fold_C H items hi _ (Nat.le_refl _), List.take_length, ends_C H.two]
  rcases List.eq_nil_or_concat items with rfl | ⟨its, x, rfl⟩
  · simp only [List.map_nil, parse_nil]
    show (0 : Int) + _ = _
    rw [Int.zero_add]
  · rw [List.concat_eq_append] at *
    have hx := hi x (by simp)
    have hlen : (its ++ [x]).length = its.length + 1 := by simp
    have hst : (foldW sg (nextsF free sg.length) (its ++ [x]) (its ++ [x]).length).2 = lastF sg (nextsF free sg.length) (Cn sg free (pB_ (its.map toL))) x := by
      rw [hlen]
      have hstep : foldW sg (nextsF free sg.length) (its ++ [x]) (its.length + 1) = turnF sg (nextsF free sg.length) (its ++ [x]) (foldW sg (nextsF free sg.length) (its ++ [x]) its.length) its.length := by unfold foldW; rw [List.range_succ, List.foldl_append]; rfl
      rw [hstep]
      unfold turnF
      have hx' : itAt (its ++ [x]) its.length = x := by simp [itAt]
      have hc : ((its.length : Int) == ((its ++ [x]).length : Int) - 1) = true := by rw [hlen]; simp
      dsimp only
      rw [if_pos hc, hx', fold_C H _ hi _ (by omega)]
      simp
    rw [hst]
    unfold lastF
    rw [after_C H _ _ hx, ends_C H.two]
    simp only [List.map_append, List.map_cons, List.map_nil]
    by_cases he : x = eS
    · have hn := toL_nil.mpr he
      rw [if_pos (by simpa using he), hn, ends_C H.two]
      have := count_sum (parse_last0 (its.map toL)) (TL sg free (sg.length - 2))
      omega
    · have hn : toL x ≠ [] := fun e => he (toL_nil.mp e)
      rw [if_neg (by simpa using he), open_C H _ _ hx hn, ends_C H.two]
      have := count_sum3 (fun t => parse_last (its.map toL) (toL x) t hn) (TL sg free (sg.length - 2))
      omega
end Mine

namespace Mine
open PySem PySem.Calls PyProof.Rows PySem.W

/-! ## from texts to lists -/
theorem drop_takeWhile (p : Nat → Bool) : ∀ l : List Nat, l.drop (l.takeWhile p).length = l.dropWhile p
  | [] => rfl
  | a :: r => by
    by_cases h : p a = true
    · rw [List.takeWhile_cons_of_pos h, List.dropWhile_cons_of_pos h, List.length_cons, List.drop_succ_cons, drop_takeWhile p r]
    · rw [List.takeWhile_cons_of_neg h, List.dropWhile_cons_of_neg h]; rfl
theorem toL_strip (x : Str) : toL (Txt.strip x) = strp (toL x) := by
  unfold Txt.strip
  rw [PyProof.Rows.stripBy_eq]
  show (Builtin.Str.strSub x _ _).cps.toList = _
  rw [StrLaws.strSub_toList]
  simp only [stripLo, stripHi, if_true]
  unfold strp lstr
  have e : (toL x).dropWhile spN = x.cps.toList.drop (x.cps.toList.takeWhile Unicode.isSpace).length := (drop_takeWhile _ _).symm
  rw [e]
  generalize hlo : (x.cps.toList.takeWhile Unicode.isSpace).length = lo
  rw [← drop_takeWhile spN, List.drop_reverse, List.reverse_reverse]
  have : (x.cps.toList.drop lo).length = x.length - lo := by simp [Str.length]
  rw [this]
  show _ = List.take (x.length - lo - ((x.cps.toList.drop lo).reverse.takeWhile Unicode.isSpace).length) _
  congr 1
  omega
def toLS (st : PS) : LS := ⟨st.res.map toL, toL st.part, st.esc, st.quote⟩
theorem toL_one (c : Nat) : toL ⟨#[c]⟩ = [c] := rfl
theorem step_L (st : PS) (c : Nat) : toLS (pStep st ⟨#[c]⟩) = lStep (toLS st) c := by
  obtain ⟨res, part, esc, quote⟩ := st
  unfold pStep lStep toLS
  rw [qS_eq, bS_eq, cS_eq, one_beq, one_beq, one_beq]
  cases esc <;> cases quote
  · by_cases h44 : c = 44
    · simp [h44, eS_eq, toL]
    · by_cases h34 : c = 34
      · simp [h34, toL_append, toL_one]
      · simp [h34, h44, toL_append, toL_one]
  · by_cases h92 : c = 92
    · simp [h92]
    · by_cases h34 : c = 34
      · simp [h34, toL_append, toL_one]
      · simp [h34, h92, toL_append, toL_one]
  · simp [toL_append, toL_one]
  · simp [toL_append, toL_one]
theorem ps_L (x : Str) : toLS (psOf (chS x)) = lsOf (toL x) := by
  unfold psOf lsOf chS
  have gen : ∀ (l : List Nat) (st : PS), toLS ((l.map fun c => (⟨#[c]⟩ : Str)).foldl pStep st) = l.foldl lStep (toLS st) := by
    intro l
    induction l with
    | nil => intro st; rfl
    | cons a r ih => intro st; rw [List.map_cons, List.foldl_cons, List.foldl_cons, ih, step_L]
  exact gen _ _
theorem parse_L (x : Str) : (parseF x).map toL = parseL (toL x) := by
  unfold parseF parseL
  rw [← ps_L]
  unfold partsOf toLS
  dsimp only
  have hm : ∀ l : List Str, (l.map Txt.strip).map toL = (l.map toL).map strp := by
    intro l; rw [List.map_map, List.map_map]; exact List.map_congr_left fun y _ => toL_strip y
  rw [hm]
  by_cases h : toL (psOf (chS x)).part = []
  · have h' : (psOf (chS x)).part.length = 0 := by rw [toL_nil.mp h]; rfl
    rw [if_pos h, if_neg (by simp [h'])]
  · have h' : (psOf (chS x)).part.length ≠ 0 := fun e => h (by
      unfold toL; unfold Str.length at e
      rw [Array.eq_empty_of_size_eq_zero e])
    rw [if_neg h, if_pos (by simpa using h'), List.map_append]; rfl
theorem parse_stp (x : Str) : ∀ y ∈ parseF x, Stp (toL y) := by
  intro y hy
  obtain ⟨z, _, rfl⟩ := List.mem_map.mp hy
  rw [toL_strip]; exact strp_stp _
theorem toL_inj {x y : Str} (h : toL x = toL y) : x = y := Str.ext' (Array.toList_inj.mp h)
theorem map_toL_inj : ∀ {a b : List Str}, a.map toL = b.map toL → a = b
  | [], [], _ => rfl
  | [], _ :: _, h => by simp at h
  | _ :: _, [], h => by simp at h
  | x :: a, y :: b, h => by
    rw [List.map_cons, List.map_cons] at h
    injection h with h1 h2
    rw [toL_inj h1, map_toL_inj h2]

/-! ## the name of a list of items -/
theorem join_L : ∀ l : List Str, toL (Txt.join eS l) = (l.map toL).flatten := by
  intro l
  show toL (Builtin.Str.glued eS l) = _
  rw [StrLaws.glued_eq_join]
  induction l with
  | nil => rfl
  | cons a r ih =>
    cases r with
    | nil => simp [Str.join]
    | cons b r =>
      show toL (a ++ eS ++ Str.join eS (b :: r)) = _
      rw [toL_append, toL_append, ih, eS_eq]
      simp [toL]
theorem cut10 : ∀ {a a' r r' : List Nat}, 10 ∉ a → 10 ∉ a' → a ++ 10 :: r = a' ++ 10 :: r' → a = a' ∧ r = r'
  | [], [], r, r', _, _, h => by simpa using h
  | [], b :: a', r, r', _, h2, h => by simp at h; exact absurd (by simp [h.1]) h2
  | b :: a, [], r, r', h1, _, h => by simp at h; exact absurd (by simp [h.1]) h1
  | b :: a, c :: a', r, r', h1, h2, h => by
    simp only [List.cons_append, List.cons.injEq] at h
    obtain ⟨e1, e2⟩ := cut10 (fun hm => h1 (List.mem_cons_of_mem _ hm)) (fun hm => h2 (List.mem_cons_of_mem _ hm)) h.2
    exact ⟨by rw [h.1, e1], e2⟩
theorem name_inj0 : ∀ {a b : List (List Nat)}, (∀ x ∈ a, 10 ∉ x) → (∀ x ∈ b, 10 ∉ x) → (a.map (· ++ [10])).flatten = (b.map (· ++ [10])).flatten → a = b
  | [], [], _, _, _ => rfl
  | [], y :: b, _, _, h => by simp at h
  | x :: a, [], _, _, h => by simp at h
  | x :: a, y :: b, h1, h2, h => by
    simp only [List.map_cons, List.flatten_cons, List.append_assoc, List.singleton_append] at h
    obtain ⟨e1, e2⟩ := cut10 (h1 x List.mem_cons_self) (h2 y List.mem_cons_self) h
    rw [e1, name_inj0 (fun z hz => h1 z (List.mem_cons_of_mem _ hz)) (fun z hz => h2 z (List.mem_cons_of_mem _ hz)) e2]
theorem name_L (items : List Str) : toL (nameF items) = ((items.map toL).map (· ++ [10])).flatten := by
  unfold nameF
  rw [join_L, List.map_map, List.map_map]
  congr 1
  refine List.map_congr_left fun y _ => ?_
  show toL (y ++ nlS) = toL y ++ [10]
  rw [toL_append]; rfl
theorem name_inj {a b : List Str} (ha : ∀ x ∈ a, 10 ∉ toL x) (hb : ∀ x ∈ b, 10 ∉ toL x) : nameF a = nameF b ↔ a = b := by
  constructor
  · intro h
    have := congrArg toL h
    rw [name_L, name_L] at this
    refine map_toL_inj (name_inj0 ?_ ?_ this)
    · intro x hx; obtain ⟨y, hy, rfl⟩ := List.mem_map.mp hx; exact ha y hy
    · intro x hx; obtain ⟨y, hy, rfl⟩ := List.mem_map.mp hx; exact hb y hy
  · rintro rfl; rfl
/-- the parser's output holds only signs of the text -/
theorem ls_mem (t : List Nat) : (∀ c ∈ (lsOf t).part, c ∈ t) ∧ ∀ r ∈ (lsOf t).res, ∀ c ∈ r, c ∈ t := by
  have step : ∀ (σ : LS) (d : Nat) (T : List Nat), (∀ c ∈ σ.part, c ∈ T) → (∀ r ∈ σ.res, ∀ c ∈ r, c ∈ T) → d ∈ T → (∀ c ∈ (lStep σ d).part, c ∈ T) ∧ ∀ r ∈ (lStep σ d).res, ∀ c ∈ r, c ∈ T := by
    intro σ d T h1 h2 h3
    have h4 : ∀ c ∈ σ.part ++ [d], c ∈ T := fun c hc => by
      rcases List.mem_append.mp hc with h | h
      · exact h1 c h
      · rw [List.mem_singleton.mp h]; exact h3
    have h5 : ∀ r ∈ σ.res ++ [σ.part], ∀ c ∈ r, c ∈ T := fun r hr => by
      rcases List.mem_append.mp hr with h | h
      · exact h2 r h
      · rw [List.mem_singleton.mp h]; exact h1
    unfold lStep
    split
    · exact ⟨h4, h2⟩
    · split
      · split
        · exact ⟨h1, h2⟩
        · split
          · exact ⟨h4, h2⟩
          · exact ⟨h4, h2⟩
      · split
        · exact ⟨fun c hc => (nomatch hc), h5⟩
        · split
          · exact ⟨h4, h2⟩
          · exact ⟨h4, h2⟩
  have gen : ∀ (l : List Nat) (σ : LS) (T : List Nat), (∀ c ∈ σ.part, c ∈ T) → (∀ r ∈ σ.res, ∀ c ∈ r, c ∈ T) → (∀ d ∈ l, d ∈ T) → (∀ c ∈ (l.foldl lStep σ).part, c ∈ T) ∧ ∀ r ∈ (l.foldl lStep σ).res, ∀ c ∈ r, c ∈ T := by
    intro l
    induction l with
    | nil => intro σ T h1 h2 _; exact ⟨h1, h2⟩
    | cons d r ih =>
      intro σ T h1 h2 h3
      obtain ⟨a, b⟩ := step σ d T h1 h2 (h3 d List.mem_cons_self)
      exact ih _ T a b fun e he => h3 e (List.mem_cons_of_mem _ he)
  exact gen t ls0 t (fun _ h => nomatch h) (fun _ h => nomatch h) fun _ h => h
theorem strp_mem {p : List Nat} {c : Nat} (h : c ∈ strp p) : c ∈ p := by
  unfold strp at h
  have h1 := (List.dropWhile_sublist spN).mem (List.mem_reverse.mp h)
  exact (List.dropWhile_sublist spN).mem (List.mem_reverse.mp h1)
theorem parse_mem {t : List Nat} : ∀ x ∈ parseL t, ∀ c ∈ x, c ∈ t := by
  intro x hx c hc
  obtain ⟨h1, h2⟩ := ls_mem t
  unfold parseL at hx
  obtain ⟨y, hy, rfl⟩ := List.mem_map.mp hx
  have hc' := strp_mem hc
  split at hy
  · exact h2 y hy c hc'
  · rcases List.mem_append.mp hy with h | h
    · exact h2 y h c hc'
    · rw [List.mem_singleton.mp h] at hc'; exact h1 c hc'

section
variable {sg : List Str} {free : List Nat} (H : Gr sg)
include H in
theorem texts_no10 : ∀ n, ∀ t ∈ TL sg free n, 10 ∉ t
  | 0 => by intro t ht; rw [TL_zero] at ht; rw [List.mem_singleton.mp ht]; simp
  | n + 1 => by
    intro t ht
    rw [TL_succ] at ht
    have hs : ∀ t ∈ SL sg free (n + 1), 10 ∉ t := by
      intro t ht
      obtain ⟨u, hu, rfl⟩ := List.mem_map.mp (show t ∈ (TL sg free n).map (· ++ toL (sgA sg (n + 1))) from ht)
      have h1 := texts_no10 n u hu
      have h2 : 10 ∉ toL (sgA sg (n + 1)) := by
        by_cases hn : n + 1 < sg.length - 1
        · obtain ⟨d, e, hd⟩ := H.ch (n + 1) (by omega) hn
          rw [e, toL_one]
          intro hm
          rw [← List.mem_singleton.mp hm] at hd
          exact absurd hd (by decide)
        · rw [H.last _ (by omega)]; simp [toL]
      intro hm
      rcases List.mem_append.mp hm with h | h
      · exact h1 h
      · exact h2 h
    rcases List.mem_append.mp ht with h | h
    · split at h
      · exact texts_no10 n t h
      · cases h
    · exact hs t h
include H in
theorem law_C (t : Str) (ht : t ∈ textsG sg free (sg.length - 2)) : writF sg (nextsF free sg.length) (parseF t) = (cntN (textsG sg free (sg.length - 2)) (nameF (parseF t)) : Int) := by
  rw [writ_C H _ (parse_stp t)]
  unfold cntN TL
  rw [List.countP_map]
  refine congrArg (fun n : Nat => (n : Int)) (List.countP_congr fun u hu => ?_)
  have no10 : ∀ v ∈ textsG sg free (sg.length - 2), ∀ x ∈ parseF v, 10 ∉ toL x := by
    intro v hv x hx hm
    have h1 : toL x ∈ parseL (toL v) := by rw [← parse_L]; exact List.mem_map_of_mem hx
    exact texts_no10 (free := free) H _ (toL v) (List.mem_map_of_mem hv) (parse_mem _ h1 _ hm)
  show decide (parseL (toL u) = (parseF t).map toL) = true ↔ (nameF (parseF u) == nameF (parseF t)) = true
  rw [decide_eq_true_iff, beq_iff_eq, name_inj (no10 u hu) (no10 t ht), ← parse_L]
  exact ⟨map_toL_inj, fun e => by rw [e]⟩
include H in
theorem nx_ok (hM : sg.length ≤ 12) : NxOk sg (nextsF free sg.length) := by
  have h2 := H.two
  constructor
  · intro i _ j hj; exact (mem_nx.mp hj).2.2.1
  · intro i _ j hj; exact (mem_nx.mp hj).2.1
  · rw [nextsF_len]; omega
  · rw [nextsF_len]; omega
  · intro i _ j hj hl
    rw [nextsF_len]
    have hj' := (mem_nx.mp hj).2.2.1
    by_cases e : j = sg.length - 1
    · rw [H.last j (by omega)] at hl; exact absurd rfl hl
    · omega
include H in
theorem one_of : ∀ x ∈ sg, x.length ≤ 1 := by
  intro x hx
  obtain ⟨j, hj, rfl⟩ := List.getElem_of_mem hx
  have e : sg[j] = sgA sg j := by simp [sgA, List.getD_eq_getElem?_getD, List.getElem?_eq_getElem hj]
  rw [e]
  by_cases h0 : j = 0
  · rw [h0, H.zero]; exact Nat.zero_le _
  · by_cases hN : j < sg.length - 1
    · obtain ⟨d, e, _⟩ := H.ch j (by omega) hN
      rw [e]; exact Nat.le_refl _
    · rw [H.last j (by omega)]; exact Nat.zero_le _

theorem TL_alone : ∀ n, TL sg [] n = [((List.range' 1 n).map fun j => toL (sgA sg j)).flatten]
  | 0 => rfl
  | n + 1 => by
    rw [TL_succ]
    show ((if n + 1 ∈ ([] : List Nat) then _ else []) ++ (TL sg [] n).map (· ++ toL (sgA sg (n + 1)))) = _
    rw [TL_alone n, List.range'_concat]
    simp [Nat.add_comm]
theorem sg_range (sg : List Str) : sg.map toL = (List.range sg.length).map fun j => toL (sgA sg j) := by
  refine List.ext_getElem (by simp) fun i h1 h2 => ?_
  have h : i < sg.length := by simpa using h1
  simp [sgA, List.getD_eq_getElem?_getD, List.getElem?_eq_getElem h]
include H in
theorem joinF_L : TL sg [] (sg.length - 2) = [toL (joinF sg)] := by
  have h2 := H.two
  unfold joinF
  rw [join_L, sg_range, TL_alone]
  have e : List.range sg.length = 0 :: List.range' 1 (sg.length - 2) ++ [sg.length - 1] := by
    obtain ⟨m, hm⟩ : ∃ m, sg.length = m + 2 := ⟨sg.length - 2, by omega⟩
    rw [hm, List.range_succ, List.range_eq_range', List.range'_succ]; rfl
  rw [e]
  have z1 : toL (sgA sg 0) = [] := by rw [H.zero]; rfl
  have z2 : toL (sgA sg (sg.length - 1)) = [] := by rw [H.last _ (Nat.le_refl _)]; rfl
  simp [z1, z2]
include H in
theorem alone_C (hM : sg.length ≤ 12) : AloneOk sg := by
  have h2 := H.two
  have hj := joinF_L H
  constructor
  · exact nx_ok H hM
  · exact nx_nodup _ _
  · rw [nextsF_len]; omega
  · exact hM
  · exact one_of H
  · have hl := (textsG_len (free := []) (one_of H) (sg.length - 2)).2
    have hm : toL (joinF sg) ∈ TL sg [] (sg.length - 2) := by rw [hj]; exact List.mem_singleton.mpr rfl
    obtain ⟨u, hu, e⟩ := List.mem_map.mp hm
    rw [← toL_inj e]
    have := hl u hu
    omega
  · rw [writ_C H _ (parse_stp _), hj, parse_L]
    simp
end
/-- a strip of signs between two empty ones -/
theorem gr_of {cs : List Str} (h : ∀ c ∈ cs, ∃ d, c = (⟨#[d]⟩ : Str) ∧ d ∈ [97, 44, 34, 92, 32, 98, 9]) : Gr (eS :: (cs ++ [eS])) := by
  constructor
  · simp
  · intro j h1 h2
    simp at h2
    obtain ⟨k, rfl⟩ : ∃ k, j = k + 1 := ⟨j - 1, by omega⟩
    have hk : k < cs.length := by omega
    obtain ⟨d, e, hd⟩ := h cs[k] (List.getElem_mem hk)
    refine ⟨d, ?_, hd⟩
    rw [← e]
    simp [sgA, List.getD_eq_getElem?_getD, List.getElem?_append_left hk, List.getElem?_eq_getElem hk]
  · exact eS_eq
  · intro j hj
    simp at hj
    obtain ⟨k, rfl⟩ : ∃ k, j = k + 1 := ⟨j - 1, by omega⟩
    unfold sgA
    rw [List.getD_eq_getElem?_getD, List.getElem?_cons_succ]
    by_cases hk : k = cs.length
    · rw [hk]; simp [eS_eq]
    · rw [List.getElem?_eq_none (by simp; omega)]; rfl
theorem stripG_1 : ∀ (ns : List Int) (st : List Str × List Nat), (ns.foldl stripStep st).1 = st.1 ++ ns.map sgnC
  | [], st => by simp
  | n :: r, st => by rw [List.foldl_cons, stripG_1 r]; simp [stripStep]
theorem sgn_ok (n : Int) : ∃ d, sgnC n = (⟨#[d]⟩ : Str) ∧ d ∈ [97, 44, 34, 92, 32, 98, 9] := by
  unfold sgnC
  have h1 : 0 ≤ n.fmod 10 := Int.fmod_nonneg_of_pos _ (by decide)
  have h2 : n.fmod 10 < 10 := Int.fmod_lt_of_pos _ (by decide)
  have : n.fmod 10 = 0 ∨ n.fmod 10 = 1 ∨ n.fmod 10 = 2 ∨ n.fmod 10 = 3 ∨ n.fmod 10 = 4 ∨ n.fmod 10 = 5 ∨ n.fmod 10 = 6 ∨ n.fmod 10 = 7 ∨ n.fmod 10 = 8 ∨ n.fmod 10 = 9 := by omega
  rcases this with h | h | h | h | h | h | h | h | h | h <;> rw [h] <;> exact ⟨_, rfl, by decide⟩
theorem lawOk_of (ns : List Int) (hn : ns.length ≤ 8) : LawOk ((stripG ns).1 ++ [eS]) (stripG ns).2 := by
  have e : (stripG ns).1 ++ [eS] = eS :: ((qS :: ns.map sgnC) ++ [eS]) := by
    unfold stripG; rw [stripG_1]; rfl
  rw [e]
  have hc : ∀ c ∈ ns.map sgnC, ∃ d, c = (⟨#[d]⟩ : Str) ∧ d ∈ [97, 44, 34, 92, 32, 98, 9] := by
    intro c hc
    obtain ⟨n, _, rfl⟩ := List.mem_map.mp hc
    exact sgn_ok n
  have H : Gr (eS :: ((qS :: ns.map sgnC) ++ [eS])) := gr_of fun c hm => by
    rcases List.mem_cons.mp hm with rfl | hm
    · exact ⟨34, qS_eq, by decide⟩
    · exact hc c hm
  have H' : Gr (eS :: (ns.map sgnC ++ [eS])) := gr_of hc
  have hl : (eS :: ((qS :: ns.map sgnC) ++ [eS])).length = ns.length + 3 := by simp
  have hl' : (eS :: (ns.map sgnC ++ [eS])).length = ns.length + 2 := by simp
  constructor
  · exact nx_ok H (by omega)
  · exact nx_nodup _ _
  · rw [nextsF_len]; omega
  · omega
  · omega
  · exact one_of H
  · exact law_C H
  · exact alone_C H (by omega)
  · exact alone_C (sg := eS :: (ns.map sgnC ++ [eS])) H' (by omega)
end Mine

namespace Mine
open PySem PySem.Calls PyProof.Rows PySem.W

def fnIdx : List Nat := [1, 3, 4, 5, 6, 7, 8, 9, 10, 11, 12, 13]
def fnRow (d : DefRec) : Str × Arguments × List Stmt × Scope := (d.name, d.params, d.body, d.scope)
theorem gd_of {view : Program} {loose : List Str} {mean : ExcName → Option Value} {mg mb : Str → Option Value} {h : Heap} (T : Top view loose mean mg mb h)
    (hr : (recsOf view).map fnRow = fnIdx.map fun i => (nmF (stm i), agF (stm i), bdF (stm i), scF (stm i)))
    (hb : ∀ x ∈ ["len", "range", "dict", "list", "sum"], mg (Str.ofString x) = none) : Gd mg mb h := by
  refine ⟨T.g, T.b, T.nolimit, fun i hi => ?_, fun x hx => ⟨hb x hx, T.builtins _ ?_⟩⟩
  · have hm : (nmF (stm i), agF (stm i), bdF (stm i), scF (stm i)) ∈ (recsOf view).map fnRow := by
      rw [hr]; exact List.mem_map.mpr ⟨i, hi, rfl⟩
    obtain ⟨⟨n, p, b, sc, ps⟩, hd, e⟩ := List.mem_map.mp hm
    obtain ⟨a, o, pm, code, doc, h1, h2, h3, h4⟩ := T.fn _ hd
    unfold fnRow at e
    simp only [Prod.mk.injEq] at e
    obtain ⟨e1, e2, e3, e4⟩ := e
    dsimp only at h1 h3 h4
    rw [e1] at h1 h4
    rw [e1, e2, e3, e4] at h3
    exact ⟨a, pm, code, doc, h1, ⟨o, h2, h3⟩, h4⟩
  · revert x; decide
theorem aok_caller : Aok 6 callerA := ⟨rfl, by decide +kernel, by decide +kernel⟩
/-- the claim's call -/
theorem law_call {prog : Program} {w : World} {view : Program} {loose : List Str} {mean : ExcName → Option Value} {mg mb : Str → Option Value} {s : Shared} {fa a : Addr} {vs : List Value} {ns : List Int} (T : Top view loose mean mg mb s.heap)
    (hr : (recsOf view).map fnRow = fnIdx.map fun i => (nmF (stm i), agF (stm i), bdF (stm i), scF (stm i)))
    (hb : ∀ x ∈ ["len", "range", "dict", "list", "sum"], mg (Str.ofString x) = none) (hmg : mg (Str.ofString "law") = some (.ref fa))
    (hL : s.heap.IsList a vs.toArray) (hI : IntsAre vs ns) (hn : ¬ (63 : Int) < (ns.length : Int)) : CallC prog w callerA fa [.ref a] s (pB true) := by
  have G := gd_of T hr hb
  obtain ⟨fa', pm, code, doc, fn⟩ := G.fn 13 (by decide)
  have e : nmF (stm 13) = Str.ofString "law" := rfl
  have h1 := fn.nm
  rw [e, hmg] at h1
  cases h1
  exact law_ok aok_caller G fn (by omega) ⟨a, vs, rfl, hL, hI⟩ (lawOk_of _ (by simp; omega))
end Mine

open PySem PySem.W PyProof.Rows
set_option maxHeartbeats 8000000 in
theorem PySem.Challenge.cw_mq0494_01_holds : PySem.Challenge.rw_mq0494_01.Holds := by
  w_on
  o_law
  k_head
  case hw => w_witness2
  k_fill
  intro w s₀ s₁ mg mb G Y fa o pm cd doc dV kV ho hd hcd hD hmg hg args vals as hpre hlay hrd hwl hlo
  refine Ground.open G ?_
  intro T B D TE TW
  wrow_args hpre hlay hrd hwl hlo
  refine enter_call ?_
  w_top on
  refine codeAny_mono ?_ (fun _ _ g => GoodW.toG g)
  rename_i hL _ _ _ hI _ hn _
  refine Mine.law_call T (by kernel_rfl) ?_ hmg hL hI hn _ ?_
  · intro y hy
    refine T.free _ ?_ ?_ ?_ ?_ ?_ <;> (revert y; decide +kernel)
  · rintro v h' tk k ⟨⟩
    exact ⟨.inl ⟨_, .bool true, [], rfl, fun _ => rfl, .bool true, by wrow_post, fun _ => ⟨List.nodup_nil, fun _ h => nomatch h⟩⟩, k, rfl, hg⟩

