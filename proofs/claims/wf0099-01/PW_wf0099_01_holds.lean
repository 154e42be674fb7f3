import PyProof.Rows.All
import Wide.All
import OpenK.AllK
import Wide.FinOn
import Open.Tops
import Lean
import PySem.Challenge.RW_wf0099_01
set_option Elab.async false
set_option linter.all false
local macro_rules | `(tactic| walk_at $s:str) => `(tactic| k_extra $s)

section
set_option Elab.async false
set_option maxRecDepth 100000
namespace Mine
open PySem PySem.W PyProof.Rows

noncomputable abbrev Rv (α : Type) := Option (α × SharedT × Nat)
noncomputable def plusN {α : Type} (k : Nat) : Rv α → Rv α
  | some (a, s, n) => some (a, s, k + n)
  | none => none
theorem plusN_some {α : Type} {k : Nat} {r : Rv α} {a : α} {s : SharedT} {n : Nat} (h : plusN k r = some (a, s, n)) : ∃ m, r = some (a, s, m) ∧ n = k + m := by
  cases r with
  | none => cases h
  | some x =>
    obtain ⟨a', s', m⟩ := x
    simp only [plusN, Option.some.injEq, Prod.mk.injEq] at h
    obtain ⟨rfl, rfl, rfl⟩ := h
    exact ⟨m, rfl, rfl⟩

noncomputable def okA (a : Addr) : Bool := Nat.ble 11 a || a == mainNs
noncomputable def getT (s : SharedT) (a : Addr) : Option Obj := match Nat.blt a s.n with
  | true => (match s.tree.get a with
    | some o => alive o
    | none => none)
  | false => none
noncomputable def setT (s : SharedT) (a : Addr) (f : Obj → Obj) : SharedT := ⟨s.tree.set a f, s.n, s.life, s.gens, s.drawn, s.toks, s.os⟩
noncomputable def insT (s : SharedT) (o : Obj) : SharedT := ⟨s.tree.ins s.n o, s.n + 1, s.life, s.gens, s.drawn, s.toks, s.os⟩
noncomputable def tokT (s : SharedT) : SharedT := ⟨s.tree, s.n, s.life, s.gens, s.drawn, s.toks + 1, s.os⟩

/-- a big-step run of the plain part of a tree: the answer, the state, the machine's steps -/
noncomputable def evS {α : Type} (S : Setting) (cf : Code → SharedT → Rv Flow) (t : Sem α) : SharedT → Rv α :=
  @Sem.rec α (fun _ => SharedT → Rv α)
    (fun a s => some (a, s, 0)) (fun _ _ => none) (fun _ _ => none) (fun _ _ => none)
    (fun _ _ ih s => plusN 1 (ih () s)) (fun _ _ ih s => plusN 1 (ih () s))
    (fun a _ _ ih s => match getT s a with
      | some o => plusN 1 (ih o s)
      | none => none)
    (fun a _ f _ ih s => match okA a with
      | true => (match getT s a with
        | some _ => plusN 1 (ih () (setT s a f))
        | none => none)
      | false => none)
    (fun o _ ih s => match ((s.tree.ins s.n o).get s.n).isSome with
      | true => plusN 1 (ih s.n (insT s o))
      | false => none)
    (fun _ _ _ _ => none) (fun _ _ ih s => plusN 1 (ih () s)) (fun _ _ _ _ => none)
    (fun _ ih s => plusN 1 (ih s.toks (tokT s))) (fun _ ih s => plusN 1 (ih S s))
    (fun _ _ _ _ _ => none) (fun _ _ _ _ _ => none)
    (fun c _ _ _ _ ih s => match cf c s with
      | some (f, s', n) => plusN (1 + (n + 1)) (ih (.ok f) s')
      | none => none)
    (fun _ _ _ _ => none) (fun _ _ _ _ => none) (fun _ _ _ _ => none) (fun _ _ _ _ _ _ => none) (fun _ _ _ _ _ _ => none)
    (fun _ _ _ => none) (fun _ _ _ _ => none) (fun _ _ _ => none) (fun _ _ _ _ _ _ _ => none) t
section
variable {α : Type} {S : Setting} {cf : Code → SharedT → Rv Flow} {s : SharedT}
theorem evS_pure {a} : evS (α := α) S cf (.pure a) s = some (a, s, 0) := rfl
theorem evS_rule {t k} : evS (α := α) S cf (.rule t k) s = plusN 1 (evS S cf (k ()) s) := rfl
theorem evS_at {t k} : evS (α := α) S cf (.at t k) s = plusN 1 (evS S cf (k ()) s) := rfl
theorem evS_point {t k} : evS (α := α) S cf (.point t k) s = plusN 1 (evS S cf (k ()) s) := rfl
theorem evS_ask {k} : evS (α := α) S cf (.ask k) s = plusN 1 (evS S cf (k S) s) := rfl
theorem evS_fresh {k} : evS (α := α) S cf (.fresh k) s = plusN 1 (evS S cf (k s.toks) (tokT s)) := rfl
theorem evS_load {a q k} : evS (α := α) S cf (.load a q k) s = match getT s a with
    | some o => plusN 1 (evS S cf (k o) s)
    | none => none := rfl
theorem evS_update {a q f k} : evS (α := α) S cf (.update a q f k) s = match okA a with
    | true => (match getT s a with
      | some _ => plusN 1 (evS S cf (k ()) (setT s a f))
      | none => none)
    | false => none := rfl
theorem evS_alloc {o k} : evS (α := α) S cf (.alloc o k) s = match ((s.tree.ins s.n o).get s.n).isSome with
    | true => plusN 1 (evS S cf (k s.n) (insT s o))
    | false => none := rfl
theorem evS_call {c h g l k} : evS (α := α) S cf (.call c h g l k) s = match cf c s with
    | some (f, s', n) => plusN (1 + (n + 1)) (evS S cf (k (.ok f)) s')
    | none => none := rfl
end

noncomputable def quietC : Code → Bool
  | .builtin id _ => !id.startsWith "lifetime."
  | _ => true
noncomputable def evC (S : Setting) : Nat → Code → SharedT → Rv Flow
  | 0, _, _ => none
  | d + 1, c, s => match evS S (evC S d) (denote treeTable c) s with
    | some (.done f, s', n) => some (f, s', n)
    | some (.again c', s', n) => (match quietC c' with
      | true => plusN (n + 1) (evC S d c' s')
      | false => none)
    | none => none

section
variable {p : Program} {w : World}
noncomputable abbrev annF : Option Value := some (.ref 6)
noncomputable abbrev go (p : Program) (w : World) (n : Nat) (s : SharedT) (t : Thread) : Option (SharedT × Thread) := segGoT treeTable p w 11 annF 1 n s t

theorem go_add : ∀ {n m : Nat} {s s1 s2 : SharedT} {t t1 t2 : Thread}, go p w n s t = some (s1, t1) → go p w m s1 t1 = some (s2, t2) → go p w (n + m) s t = some (s2, t2)
  | 0, m, s, s1, s2, t, t1, t2, h, k => by
    have e : (s, t) = (s1, t1) := Option.some.inj h
    obtain ⟨rfl, rfl⟩ := Prod.mk.inj e
    rw [Nat.zero_add]; exact k
  | n + 1, m, s, s1, s2, t, t1, t2, h, k => by
    rw [show n + 1 + m = n + m + 1 by omega]
    unfold go at h ⊢
    unfold segGoT at h ⊢
    cases he : endAt 1 t with
    | some x => rw [he] at h; cases h
    | none =>
      rw [he] at h
      cases hk : stepOk 11 annF t with
      | false => rw [hk] at h; cases h
      | true =>
        rw [hk] at h
        cases hs : stepT (denote treeTable) p w s t with
        | none => rw [hs] at h; cases h
        | some r => obtain ⟨s', t'⟩ := r; rw [hs] at h; exact go_add (n := n) h k
theorem go_one {s s' : SharedT} {t t' : Thread} (he : endAt 1 t = none) (hk : stepOk 11 annF t = true) (hs : stepT (denote treeTable) p w s t = some (s', t')) : go p w 1 s t = some (s', t') := by
  unfold go segGoT
  rw [he, hk, hs]
  rfl
theorem end_none {cur : Sem Fin} {c : Code} {pos : Pos} {B : List Frame} (h : ∀ f, cur ≠ .pure (.done f)) : endAt 1 ⟨cur, c, pos, B⟩ = none := by
  unfold endAt
  dsimp only
  cases (B.length == 1) with
  | false => rfl
  | true =>
    cases cur with
    | pure x => cases x with
      | done f => exact absurd rfl (h f)
      | again _ => rfl
    | _ => rfl
theorem end_deep {cur : Sem Fin} {c : Code} {pos : Pos} {fr : Frame} {B : List Frame} (h : B ≠ []) : endAt 1 ⟨cur, c, pos, fr :: B⟩ = none := by
  cases B with
  | nil => exact absurd rfl h
  | cons b r =>
    have e : ((fr :: b :: r).length == 1) = false := by simp
    unfold endAt
    dsimp only
    rw [e]
theorem wrap_self {α : Type} (t : Sem α) : t.wrap .pure .raise id id = t := by
  induction t <;> simp only [Sem.wrap, id, *]

noncomputable def CodeRun (p : Program) (w : World) (c : Code) (s : SharedT) (f : Flow) (s' : SharedT) (n : Nat) : Prop :=
  ∀ (k : Result → Sem Fin) (h : Option Value) (g : Bool) (l : List Value) (cd : Code) (p0 : Pos) (kept : List Value) (pos : Pos) (B : List Frame), B ≠ [] →
    ∃ c' pos' kept', go p w n s ⟨denote treeTable c, c, pos, .ret k h g l cd p0 kept :: B⟩ = some (s', ⟨.pure (.done f), c', pos', .ret k h g l cd p0 kept' :: B⟩)

theorem evS_sound {α : Type} {cf : Code → SharedT → Rv Flow} (hcf : ∀ c s f s' n, cf c s = some (f, s', n) → CodeRun p w c s f s' n) (t : Sem α) :
    ∀ (s : SharedT) (a : α) (s' : SharedT) (n : Nat), evS ⟨p, w.params⟩ cf t s = some (a, s', n) →
    ∀ (K : α → Sem Fin) (H : Value → Sem Fin) (gd : Bool → Bool) (lv : List Value → List Value) (c : Code) (pos : Pos) (B : List Frame), B ≠ [] →
      ∃ pos', go p w n s ⟨t.wrap K H gd lv, c, pos, B⟩ = some (s', ⟨K a, c, pos', B⟩) := by
  induction t with
  | pure a =>
    intro s b s' n h K H gd lv c pos B hB
    replace h : some (a, s, 0) = some (b, s', n) := h
    cases h
    exact ⟨pos, rfl⟩
  | rule tag k ih =>
    intro s a s' n h K H gd lv c pos B hB
    obtain ⟨m, h1, rfl⟩ := plusN_some h
    obtain ⟨pos', h2⟩ := ih () s a s' m h1 K H gd lv c pos B hB
    exact ⟨pos', go_add (go_one (end_none (fun f e => by cases e)) rfl rfl) h2⟩
  | «at» q k ih =>
    intro s a s' n h K H gd lv c pos B hB
    obtain ⟨m, h1, rfl⟩ := plusN_some h
    obtain ⟨pos', h2⟩ := ih () s a s' m h1 K H gd lv c q B hB
    exact ⟨pos', go_add (go_one (end_none (fun f e => by cases e)) rfl rfl) h2⟩
  | point l k ih =>
    intro s a s' n h K H gd lv c pos B hB
    obtain ⟨m, h1, rfl⟩ := plusN_some h
    obtain ⟨pos', h2⟩ := ih () s a s' m h1 K H gd lv c pos B hB
    exact ⟨pos', go_add (go_one (end_none (fun f e => by cases e)) rfl rfl) h2⟩
  | ask k ih =>
    intro s a s' n h K H gd lv c pos B hB
    obtain ⟨m, h1, rfl⟩ := plusN_some h
    obtain ⟨pos', h2⟩ := ih _ s a s' m h1 K H gd lv c pos B hB
    exact ⟨pos', go_add (go_one (end_none (fun f e => by cases e)) rfl rfl) h2⟩
  | fresh k ih =>
    intro s a s' n h K H gd lv c pos B hB
    obtain ⟨m, h1, rfl⟩ := plusN_some h
    obtain ⟨pos', h2⟩ := ih _ (tokT s) a s' m h1 K H gd lv c pos B hB
    exact ⟨pos', go_add (go_one (end_none (fun f e => by cases e)) rfl rfl) h2⟩
  | load b q k ih =>
    intro s a s' n h K H gd lv c pos B hB
    obtain ⟨T, m0, life, gens, drawn, toks, os⟩ := s
    rw [evS_load] at h
    cases hg : getT ⟨T, m0, life, gens, drawn, toks, os⟩ b with
    | none => rw [hg] at h; cases h
    | some o =>
      rw [hg] at h
      obtain ⟨m, h1, rfl⟩ := plusN_some h
      obtain ⟨pos', h2⟩ := ih _ _ a s' m h1 K H gd lv c pos B hB
      refine ⟨pos', go_add (go_one (end_none (fun f e => by cases e)) rfl ?_) h2⟩
      simp only [getT] at hg
      simp only [Sem.wrap, stepT]
      cases e1 : Nat.blt b m0 with
      | false => rw [e1] at hg; cases hg
      | true =>
        rw [e1] at hg
        cases e2 : T.get b with
        | none => simp only [e2] at hg; cases hg
        | some o1 => simp only [e2] at hg; simp only [hg]
  | update b q f k ih =>
    intro s a s' n h K H gd lv c pos B hB
    obtain ⟨T, m0, life, gens, drawn, toks, os⟩ := s
    rw [evS_update] at h
    cases hok : okA b with
    | false => rw [hok] at h; cases h
    | true =>
      rw [hok] at h
      cases hg : getT ⟨T, m0, life, gens, drawn, toks, os⟩ b with
      | none => rw [hg] at h; cases h
      | some o =>
        rw [hg] at h
        obtain ⟨m, h1, rfl⟩ := plusN_some h
        obtain ⟨pos', h2⟩ := ih () _ a s' m h1 K H gd lv c pos B hB
        refine ⟨pos', go_add (go_one (end_none (fun f e => by cases e)) ?_ ?_) h2⟩
        · unfold okA at hok
          simp only [Bool.or_eq_true] at hok
          simp only [Sem.wrap, stepOk, Thread.calm, Thread.atCollectorCode, Thread.atExit, Thread.yieldsInsideHandler, Bool.not_false, Bool.true_or, Bool.and_true, Bool.true_and, Bool.or_eq_true]
          rcases hok with q | q
          · exact .inl (.inl (.inl q))
          · exact .inl (.inl (.inr q))
        · simp only [getT] at hg
          simp only [Sem.wrap, stepT]
          cases e1 : Nat.blt b m0 with
          | false => rw [e1] at hg; cases hg
          | true =>
            rw [e1] at hg
            cases e2 : T.get b with
            | none => simp only [e2] at hg; cases hg
            | some o1 => simp only [e2] at hg; simp only [hg]; rfl
  | alloc o k ih =>
    intro s a s' n h K H gd lv c pos B hB
    obtain ⟨T, m0, life, gens, drawn, toks, os⟩ := s
    rw [evS_alloc] at h
    cases hg : ((T.ins m0 o).get m0).isSome with
    | false => rw [hg] at h; cases h
    | true =>
      rw [hg] at h
      obtain ⟨m, h1, rfl⟩ := plusN_some h
      obtain ⟨pos', h2⟩ := ih _ _ a s' m h1 K H gd lv c pos B hB
      refine ⟨pos', go_add (go_one (end_none (fun f e => by cases e)) rfl ?_) h2⟩
      simp only [Sem.wrap, stepT, hg]; rfl
  | call c0 h0 g0 l0 k ih =>
    intro s a s' n h K H gd lv c pos B hB
    rw [evS_call] at h
    cases hc : cf c0 s with
    | none => rw [hc] at h; cases h
    | some x =>
      obtain ⟨f, s1, m1⟩ := x
      rw [hc] at h
      obtain ⟨m, h1, rfl⟩ := plusN_some h
      obtain ⟨pos', h2⟩ := ih _ s1 a s' m h1 K H gd lv c pos B hB
      have hst : ∃ kept0, stepT (denote treeTable) p w s ⟨(Sem.call c0 h0 g0 l0 k).wrap K H gd lv, c, pos, B⟩ = some (s, ⟨denote treeTable c0, c0, pos, .ret (fun x => (k x).wrap K H gd lv) h0 (gd g0) (lv l0) c pos kept0 :: B⟩) := by
        obtain ⟨T, m0, life, gens, drawn, toks, os⟩ := s
        exact ⟨_, rfl⟩
      obtain ⟨kept0, hst⟩ := hst
      obtain ⟨c', pos1, kept', h3⟩ := hcf _ _ _ _ _ hc (fun x => (k x).wrap K H gd lv) h0 (gd g0) (lv l0) c pos kept0 pos B hB
      have s1' : go p w 1 s ⟨(Sem.call c0 h0 g0 l0 k).wrap K H gd lv, c, pos, B⟩ = some (s, ⟨denote treeTable c0, c0, pos, .ret (fun x => (k x).wrap K H gd lv) h0 (gd g0) (lv l0) c pos kept0 :: B⟩) :=
        go_one (end_none (fun f e => by cases e)) rfl hst
      have s2' : go p w 1 s1 ⟨.pure (.done f), c', pos1, .ret (fun x => (k x).wrap K H gd lv) h0 (gd g0) (lv l0) c pos kept' :: B⟩ = some (s1, ⟨(k (.ok f)).wrap K H gd lv, c, pos, B⟩) :=
        go_one (end_deep hB) rfl (by obtain ⟨T, m0, life, gens, drawn, toks, os⟩ := s1; rfl)
      exact ⟨pos', go_add (go_add s1' (go_add h3 s2')) h2⟩
  | _ =>
    intro s a s' n h
    exact nomatch (show none = some (a, s', n) from h)

theorem evC_sound : ∀ (d : Nat) (c : Code) (s : SharedT) (f : Flow) (s' : SharedT) (n : Nat), evC ⟨p, w.params⟩ d c s = some (f, s', n) → CodeRun p w c s f s' n
  | 0, _, _, _, _, _, h => by simp [evC] at h
  | d + 1, c, s, f, s', n, h => by
    intro k hd g l cd p0 kept pos B hB
    simp only [evC] at h
    cases he : evS ⟨p, w.params⟩ (evC ⟨p, w.params⟩ d) (denote treeTable c) s with
    | none => rw [he] at h; cases h
    | some x =>
      obtain ⟨fin, s1, m⟩ := x
      rw [he] at h
      obtain ⟨pos1, h1⟩ := evS_sound (evC_sound d) _ _ _ _ _ he .pure .raise id id c pos (.ret k hd g l cd p0 kept :: B) (by intro e; cases e)
      rw [wrap_self] at h1
      cases fin with
      | done f' =>
        simp only [Option.some.injEq, Prod.mk.injEq] at h
        obtain ⟨rfl, rfl, rfl⟩ := h
        exact ⟨c, pos1, kept, h1⟩
      | again c' =>
        dsimp only at h
        cases hq : quietC c' with
        | false => rw [hq] at h; cases h
        | true =>
          rw [hq] at h
          obtain ⟨m2, h2, rfl⟩ := plusN_some h
          have hs : ∃ kept', stepT (denote treeTable) p w s1 ⟨.pure (.again c'), c, pos1, .ret k hd g l cd p0 kept :: B⟩ = some (s1, ⟨denote treeTable c', c', pos1, .ret k hd g l cd p0 kept' :: B⟩) := by
            obtain ⟨T, m0, life, gens, drawn, toks, os⟩ := s1
            refine ⟨keptBy c c' l kept, ?_⟩
            simp only [stepT, W.step_again]
          obtain ⟨kept', hs⟩ := hs
          obtain ⟨c2, pos2, kept2, h3⟩ := evC_sound d c' s1 f s' m2 h2 k hd g l cd p0 kept' pos1 B hB
          refine ⟨c2, pos2, kept2, go_add (go_add h1 (go_one (end_deep hB) ?_ hs)) h3⟩
          cases c' with
          | builtin id args =>
            have hq' : (id.startsWith "lifetime.") = false := by simpa [quietC] using hq
            simp only [stepOk, Thread.calm, Thread.atCollectorCode, Thread.yieldsInsideHandler, hq', Bool.not_false, Bool.true_or, Bool.and_true]
          | _ => rfl
end
end Mine
end
section
set_option Elab.async false
set_option maxRecDepth 100000
namespace Mine
open PySem PySem.W PyProof.Rows

theorem plusN_zero {α : Type} (r : Rv α) : plusN 0 r = r := by
  cases r with
  | none => rfl
  | some x => obtain ⟨a, s, n⟩ := x; simp [plusN]
theorem plusN_plusN {α : Type} (a b : Nat) (r : Rv α) : plusN a (plusN b r) = plusN (a + b) r := by
  cases r with
  | none => rfl
  | some x => obtain ⟨y, s, n⟩ := x; simp [plusN, Nat.add_assoc]
theorem plusN_none {α : Type} (k : Nat) : plusN k (none : Rv α) = none := rfl
theorem plusN_some' {α : Type} (k n : Nat) (a : α) (s : SharedT) : plusN k (some (a, s, n) : Rv α) = some (a, s, k + n) := rfl

section
variable {α β : Type} {S : Setting} {cf : Code → SharedT → Rv Flow}

noncomputable def bindR (r : Rv α) (f : α → SharedT → Rv β) : Rv β := match r with
  | some (a, s, n) => plusN n (f a s)
  | none => none
theorem bindR_plusN (k : Nat) (r : Rv α) (f : α → SharedT → Rv β) : bindR (plusN k r) f = plusN k (bindR r f) := by
  cases r with
  | none => rfl
  | some x => obtain ⟨a, s, n⟩ := x; simp only [plusN_some', bindR, plusN_plusN]

theorem evS_bind' (t : Sem α) (f : α → Sem β) : ∀ s, evS S cf (t.bind f) s = bindR (evS S cf t s) (fun a s' => evS S cf (f a) s') := by
  induction t with
  | pure a => intro s; simp only [Sem.bind, evS_pure, evS_rule, evS_at, evS_point, evS_ask, evS_fresh, evS_load, evS_update, evS_alloc, evS_call, bindR, plusN_zero]
  | rule _ k ih | «at» _ k ih | point _ k ih => intro s; simp only [Sem.bind, evS_pure, evS_rule, evS_at, evS_point, evS_ask, evS_fresh, evS_load, evS_update, evS_alloc, evS_call, ih, bindR_plusN]
  | ask k ih | fresh k ih => intro s; simp only [Sem.bind, evS_pure, evS_rule, evS_at, evS_point, evS_ask, evS_fresh, evS_load, evS_update, evS_alloc, evS_call, ih, bindR_plusN]
  | load a q k ih => intro s; simp only [Sem.bind, evS_pure, evS_rule, evS_at, evS_point, evS_ask, evS_fresh, evS_load, evS_update, evS_alloc, evS_call]; split <;> first | rfl | simp only [ih, bindR_plusN]
  | update a q f k ih => intro s; simp only [Sem.bind, evS_pure, evS_rule, evS_at, evS_point, evS_ask, evS_fresh, evS_load, evS_update, evS_alloc, evS_call]; (repeat' split) <;> first | rfl | simp only [ih, bindR_plusN]
  | alloc o k ih => intro s; simp only [Sem.bind, evS_pure, evS_rule, evS_at, evS_point, evS_ask, evS_fresh, evS_load, evS_update, evS_alloc, evS_call]; split <;> first | rfl | simp only [ih, bindR_plusN]
  | call c h g l k ih => intro s; simp only [Sem.bind, evS_pure, evS_rule, evS_at, evS_point, evS_ask, evS_fresh, evS_load, evS_update, evS_alloc, evS_call]; split <;> first | rfl | simp only [ih, bindR_plusN]
  | _ => intro s; rfl
theorem evS_bind (t : Sem α) (f : α → Sem β) (s : SharedT) : evS S cf (t >>= f) s = bindR (evS S cf t s) (fun a s' => evS S cf (f a) s') := evS_bind' t f s
theorem evS_keep (vs : List Value) (t : Sem α) : ∀ s, evS S cf (t.keep vs) s = evS S cf t s := by
  induction t with
  | pure a => intro s; simp only [Sem.keep, evS_pure, evS_rule, evS_at, evS_point, evS_ask, evS_fresh, evS_load, evS_update, evS_alloc, evS_call]
  | rule _ k ih | «at» _ k ih | point _ k ih => intro s; simp only [Sem.keep, evS_pure, evS_rule, evS_at, evS_point, evS_ask, evS_fresh, evS_load, evS_update, evS_alloc, evS_call, ih]
  | ask k ih | fresh k ih => intro s; simp only [Sem.keep, evS_pure, evS_rule, evS_at, evS_point, evS_ask, evS_fresh, evS_load, evS_update, evS_alloc, evS_call, ih]
  | load a q k ih => intro s; simp only [Sem.keep, evS_pure, evS_rule, evS_at, evS_point, evS_ask, evS_fresh, evS_load, evS_update, evS_alloc, evS_call]; split <;> first | rfl | simp only [ih]
  | update a q f k ih => intro s; simp only [Sem.keep, evS_pure, evS_rule, evS_at, evS_point, evS_ask, evS_fresh, evS_load, evS_update, evS_alloc, evS_call]; (repeat' split) <;> first | rfl | simp only [ih]
  | alloc o k ih => intro s; simp only [Sem.keep, evS_pure, evS_rule, evS_at, evS_point, evS_ask, evS_fresh, evS_load, evS_update, evS_alloc, evS_call]; split <;> first | rfl | simp only [ih]
  | call c h g l k ih => intro s; simp only [Sem.keep, evS_pure, evS_rule, evS_at, evS_point, evS_ask, evS_fresh, evS_load, evS_update, evS_alloc, evS_call]; split <;> first | rfl | simp only [ih]
  | _ => intro s; rfl
theorem evS_holding (vs : List Value) (t : Sem α) (s : SharedT) : evS S cf (holding vs t) s = evS S cf t s := by
  unfold holding
  split
  · rfl
  · exact evS_keep _ t s
theorem evS_onRaise (t : Sem α) (h : Value → Sem Unit) : ∀ (s : SharedT) (r), evS S cf t s = some r → evS S cf (t.onRaise h) s = some r := by
  induction t with
  | pure a => intro s r e; exact e
  | rule _ k ih | «at» _ k ih | point _ k ih =>
    intro s r e
    obtain ⟨a, s', n⟩ := r
    obtain ⟨m, e1, rfl⟩ := plusN_some e
    simp only [Sem.onRaise, evS_pure, evS_rule, evS_at, evS_point, evS_ask, evS_fresh, evS_load, evS_update, evS_alloc, evS_call, ih _ _ _ e1, plusN_some']
  | ask k ih | fresh k ih =>
    intro s r e
    obtain ⟨a, s', n⟩ := r
    obtain ⟨m, e1, rfl⟩ := plusN_some e
    simp only [Sem.onRaise, evS_pure, evS_rule, evS_at, evS_point, evS_ask, evS_fresh, evS_load, evS_update, evS_alloc, evS_call, ih _ _ _ e1, plusN_some']
  | load a q k ih =>
    intro s r e
    obtain ⟨b, s', n⟩ := r
    simp only [evS_pure, evS_rule, evS_at, evS_point, evS_ask, evS_fresh, evS_load, evS_update, evS_alloc, evS_call, Sem.onRaise] at e ⊢
    split at e
    · obtain ⟨m, e1, rfl⟩ := plusN_some e
      simp only [ih _ _ _ e1, plusN_some']
    · cases e
  | update a q f k ih =>
    intro s r e
    obtain ⟨b, s', n⟩ := r
    simp only [evS_pure, evS_rule, evS_at, evS_point, evS_ask, evS_fresh, evS_load, evS_update, evS_alloc, evS_call, Sem.onRaise] at e ⊢
    split at e
    · split at e
      · obtain ⟨m, e1, rfl⟩ := plusN_some e
        simp only [ih _ _ _ e1, plusN_some']
      · cases e
    · cases e
  | alloc o k ih =>
    intro s r e
    obtain ⟨b, s', n⟩ := r
    simp only [evS_pure, evS_rule, evS_at, evS_point, evS_ask, evS_fresh, evS_load, evS_update, evS_alloc, evS_call, Sem.onRaise] at e ⊢
    split at e
    · obtain ⟨m, e1, rfl⟩ := plusN_some e
      simp only [ih _ _ _ e1, plusN_some']
    · cases e
  | call c h g l k ih =>
    intro s r e
    obtain ⟨b, s', n⟩ := r
    simp only [evS_pure, evS_rule, evS_at, evS_point, evS_ask, evS_fresh, evS_load, evS_update, evS_alloc, evS_call, Sem.onRaise] at e ⊢
    split at e
    · obtain ⟨m, e1, rfl⟩ := plusN_some e
      simp only [ih _ _ _ e1, plusN_some']
    · cases e
  | _ => intro s r e; exact nomatch (show none = some r from e)

noncomputable abbrev Ev (S : Setting) (cf : Code → SharedT → Rv Flow) (t : Sem α) (s : SharedT) (a : α) (s' : SharedT) (n : Nat) : Prop := evS S cf t s = some (a, s', n)
theorem ev_bind {t : Sem α} {f : α → Sem β} {s s1 s2 : SharedT} {a : α} {b : β} {n m : Nat} (h1 : Ev S cf t s a s1 n) (h2 : Ev S cf (f a) s1 b s2 m) : Ev S cf (t >>= f) s b s2 (n + m) := by
  unfold Ev at *
  rw [evS_bind, h1]
  show plusN n (evS S cf (f a) s1) = _
  rw [h2]; rfl
theorem ev_pure (a : α) (s : SharedT) : Ev S cf (pure a) s a s 0 := rfl
theorem ev_holding {vs : List Value} {t : Sem α} {s s' : SharedT} {a : α} {n : Nat} (h : Ev S cf t s a s' n) : Ev S cf (holding vs t) s a s' n := by
  unfold Ev at *; rw [evS_holding]; exact h
end

theorem specialOf_int (k : Int) (t : Tok) : specialOf (.int k t) "__hash__" = pure (some (.builtin "int.__hash__")) := by kernel_rfl
theorem code_int_hash (S : Setting) (k : Int) (t : Tok) (s : SharedT) : evC S 3 (.call (.builtin "int.__hash__") ⟨[.int k t], []⟩) s = some (.ret (.int (PySem.rawHash k) s.toks), tokT s, 2) := by kernel_rfl
end Mine
end
section
set_option Elab.async false
set_option maxRecDepth 100000
namespace Mine
open PySem PySem.W PyProof.Rows

-- trees
theorem bt_set_const {f : Obj → Obj} : ∀ (T : BT) (i : Nat) (o : Obj), T.get i = some o → T.set i f = T.set i (fun _ => f o)
  | .nil, _, _, _ => rfl
  | .node v l r, i, o, h => by
    rw [BT.get_node] at h
    rw [BT.set_node, BT.set_node]
    by_cases h0 : i = 0
    · rw [if_pos h0] at h; cases h; rw [if_pos h0, if_pos h0]
    · rw [if_neg h0] at h ⊢
      rw [if_neg h0]
      by_cases h1 : i % 2 = 1
      · rw [if_pos h1] at h ⊢; rw [if_pos h1, bt_set_const l _ _ h]
      · rw [if_neg h1] at h ⊢; rw [if_neg h1, bt_set_const r _ _ h]
theorem bt_set_set {f g : Obj → Obj} : ∀ (T : BT) (i : Nat), (T.set i f).set i g = T.set i (fun o => g (f o))
  | .nil, _ => rfl
  | .node v l r, i => by
    rw [BT.set_node, BT.set_node _ _ _ _ (fun o => g (f o))]
    by_cases h0 : i = 0
    · rw [if_pos h0, if_pos h0, BT.set_node, if_pos h0]
    · rw [if_neg h0, if_neg h0]
      by_cases h1 : i % 2 = 1
      · rw [if_pos h1, if_pos h1, BT.set_node, if_neg h0, if_pos h1, bt_set_set l]
      · rw [if_neg h1, if_neg h1, BT.set_node, if_neg h0, if_neg h1, bt_set_set r]
theorem bt_ins_set {f : Obj → Obj} {o : Obj} : ∀ (T : BT) (i : Nat), ((T.ins i o).get i).isSome = true → (T.ins i o).set i f = T.ins i (f o)
  | .nil, i, h => by
    have e : (BT.nil.ins i o) = .node o .nil .nil := rfl
    rw [e, BT.get_node] at h
    by_cases h0 : i = 0
    · subst h0; rfl
    · exfalso; rw [if_neg h0] at h; revert h; by_cases h1 : i % 2 = 1 <;> simp [h1, BT.get]
  | .node v l r, i, h => by
    rw [BT.ins_node] at h ⊢
    rw [BT.ins_node]
    by_cases h0 : i = 0
    · rw [if_pos h0, if_pos h0, BT.set_node, if_pos h0]
    · rw [if_neg h0] at h ⊢
      rw [if_neg h0]
      by_cases h1 : i % 2 = 1
      · rw [if_pos h1] at h ⊢
        rw [BT.get_node, if_neg h0, if_pos h1] at h
        rw [if_pos h1, BT.set_node, if_neg h0, if_pos h1, bt_ins_set l _ h]
      · rw [if_neg h1] at h ⊢
        rw [BT.get_node, if_neg h0, if_neg h1] at h
        rw [if_neg h1, BT.set_node, if_neg h0, if_neg h1, bt_ins_set r _ h]
noncomputable def Full (T : BT) (n : Nat) : Prop := ∀ i, i < n → (T.get i).isSome = true
theorem full_room {o : Obj} : ∀ (T : BT) (n : Nat), Full T n → ((T.ins n o).get n).isSome = true
  | .nil, n, h => by
    have : n = 0 := by
      rcases Nat.eq_zero_or_pos n with e | e
      · exact e
      · have := h 0 e; simp [BT.get] at this
    subst this; rfl
  | .node v l r, n, h => by
    rw [BT.ins_node]
    by_cases h0 : n = 0
    · rw [if_pos h0, BT.get_node, if_pos h0]; rfl
    · rw [if_neg h0]
      by_cases h1 : n % 2 = 1
      · rw [if_pos h1, BT.get_node, if_neg h0, if_pos h1]
        refine full_room l _ fun i hi => ?_
        have := h (2 * i + 1) (by omega)
        rw [BT.get_node, if_neg (by omega), if_pos (by omega)] at this
        rw [show (2 * i + 1) / 2 = i by omega] at this
        exact this
      · rw [if_neg h1, BT.get_node, if_neg h0, if_neg h1]
        refine full_room r _ fun i hi => ?_
        have := h (2 * i + 2) (by omega)
        rw [BT.get_node, if_neg (by omega), if_neg (by omega)] at this
        rw [show (2 * i + 2) / 2 - 1 = i by omega] at this
        exact this
theorem full_ins {T : BT} {n : Nat} {o : Obj} (h : Full T n) : Full (T.ins n o) (n + 1) := fun i hi => by
  rw [BT.get_ins o T n (full_room T n h)]
  by_cases e : i = n
  · rw [if_pos e]; rfl
  · rw [if_neg e]; exact h i (by omega)
theorem full_set {T : BT} {n a : Nat} {f : Obj → Obj} (h : Full T n) : Full (T.set a f) n := fun i hi => by
  rw [BT.get_set]
  by_cases e : i = a
  · rw [if_pos e]; subst e; simpa using h i hi
  · rw [if_neg e]; exact h i hi

-- states
noncomputable def Wf (s : SharedT) : Prop := Full s.tree s.n
theorem wf_tok {s : SharedT} (h : Wf s) : Wf (tokT s) := h
theorem wf_set {s : SharedT} {a : Addr} {f : Obj → Obj} (h : Wf s) : Wf (setT s a f) := full_set h
theorem wf_ins {s : SharedT} {o : Obj} (h : Wf s) : Wf (insT s o) := full_ins h
theorem lt_of_getT {s : SharedT} {a : Addr} {o : Obj} (h : getT s a = some o) : a < s.n := by
  unfold getT at h
  cases e : Nat.blt a s.n with
  | false => rw [e] at h; cases h
  | true => exact Nat.le_of_ble_eq_true e
theorem blt_true {a b : Nat} (h : a < b) : Nat.blt a b = true := Nat.ble_eq_true_of_le h
theorem getT_of {s : SharedT} {a : Addr} {o : Obj} (hl : a < s.n) (h : s.tree.get a = some o) : getT s a = alive o := by
  unfold getT; rw [blt_true hl, h]
theorem tree_of_getT {s : SharedT} {a : Addr} {o : Obj} (h : getT s a = some o) : ∃ o', s.tree.get a = some o' ∧ alive o' = some o := by
  have hl := lt_of_getT h
  unfold getT at h
  rw [blt_true hl] at h
  dsimp only at h
  cases e : s.tree.get a with
  | none => rw [e] at h; cases h
  | some o' => rw [e] at h; exact ⟨o', rfl, h⟩

noncomputable abbrev dictO (es : Array DictEntry) (ep : Nat) : Obj := ⟨.type "dict", none, .dict es ep, #[]⟩
theorem alive_inv {o o' : Obj} (h : alive o' = some o) : o' = o := by
  obtain ⟨c, d, dt, sl⟩ := o'
  cases dt <;> first | (cases h; rfl) | cases h
noncomputable def putD (s : SharedT) (d : Addr) (es : Array DictEntry) (ep : Nat) : SharedT := setT s d (fun _ => dictO es ep)
theorem getT_put {s : SharedT} {d : Addr} {o : Obj} {es : Array DictEntry} {ep : Nat} (h : getT s d = some o) : getT (putD s d es ep) d = some (dictO es ep) := by
  obtain ⟨o', h1, h2⟩ := tree_of_getT h
  have hl0 := lt_of_getT h
  have hl : d < (putD s d es ep).n := hl0
  rw [getT_of (s := putD s d es ep) hl (o := dictO es ep)]
  · rfl
  · show (s.tree.set d _).get d = _
    rw [BT.get_set, if_pos rfl, h1]; rfl
theorem getT_set_ne {s : SharedT} {a d : Addr} {f : Obj → Obj} (h : a ≠ d) : getT (setT s d f) a = getT s a := by
  unfold getT setT
  dsimp only
  rw [BT.get_set, if_neg h]
theorem getT_put_ne {s : SharedT} {a d : Addr} {es : Array DictEntry} {ep : Nat} (h : a ≠ d) : getT (putD s d es ep) a = getT s a := getT_set_ne h
theorem put_put {s : SharedT} {d : Addr} {es es' : Array DictEntry} {ep ep' : Nat} : putD (putD s d es ep) d es' ep' = putD s d es' ep' := by
  unfold putD setT; simp only [bt_set_set]
theorem tok_put {s : SharedT} {d : Addr} {es : Array DictEntry} {ep : Nat} : tokT (putD s d es ep) = putD (tokT s) d es ep := rfl
theorem set_keys {s : SharedT} {d : Addr} {es : Array DictEntry} {ep : Nat} {g : Array DictEntry → Array DictEntry} (h : getT s d = some (dictO es ep)) : setT s d (Obj.mapDictKeys g) = putD s d (g es) (ep + 1) := by
  obtain ⟨o', h1, h2⟩ := tree_of_getT h
  obtain rfl := alive_inv h2
  unfold setT putD setT
  rw [bt_set_const _ _ _ h1]
  rfl
theorem getT_ins {s : SharedT} {es : Array DictEntry} {ep : Nat} (w : Wf s) : getT (insT s (dictO es ep)) s.n = some (dictO es ep) := by
  rw [getT_of (s := insT s (dictO es ep)) (Nat.lt_succ_self _) (o := dictO es ep)]
  · rfl
  · show (s.tree.ins s.n _).get s.n = _
    rw [BT.get_ins _ _ _ (full_room _ _ w), if_pos rfl]
theorem getT_ins_old {s : SharedT} {a : Addr} {o oa : Obj} (w : Wf s) (h : getT s a = some oa) : getT (insT s o) a = some oa := by
  obtain ⟨o', h1, h2⟩ := tree_of_getT h
  have hl := lt_of_getT h
  rw [getT_of (s := insT s o) (Nat.lt_succ_of_lt hl) (o := o')]
  · exact h2
  · show (s.tree.ins s.n _).get a = _
    rw [BT.get_ins _ _ _ (full_room _ _ w), if_neg (Nat.ne_of_lt hl)]; exact h1
theorem put_ins {s : SharedT} {es es' : Array DictEntry} {ep ep' : Nat} (w : Wf s) : putD (insT s (dictO es ep)) s.n es' ep' = insT s (dictO es' ep') := by
  unfold putD setT insT
  dsimp only
  rw [bt_ins_set _ _ (full_room _ _ w)]

-- runs
section
variable {α β : Type} {S : Setting} {cf : Code → SharedT → Rv Flow}
theorem Ev.cast {t : Sem α} {s s' : SharedT} {a : α} {n m : Nat} (h : Ev S cf t s a s' n) (e : n = m) : Ev S cf t s a s' m := e ▸ h
theorem ev_rule (tag : String) (s : SharedT) : Ev S cf (rule tag) s () s 1 := rfl
theorem ev_load {a : Addr} {q : Option Value} {s : SharedT} {o : Obj} (h : getT s a = some o) : Ev S cf (loadPart a q) s o s 1 := by
  unfold Ev loadPart; simp only [evS_pure, evS_rule, evS_at, evS_point, evS_ask, evS_fresh, evS_load, evS_update, evS_alloc, evS_call, h]; rfl
theorem ev_update {a : Addr} {q : Option Value} {f : Obj → Obj} {s : SharedT} {o : Obj} (hk : okA a = true) (h : getT s a = some o) : Ev S cf (updatePart a q f) s () (setT s a f) 1 := by
  unfold Ev updatePart; simp only [evS_pure, evS_rule, evS_at, evS_point, evS_ask, evS_fresh, evS_load, evS_update, evS_alloc, evS_call, h, hk]; rfl
theorem ev_alloc {o : Obj} {s : SharedT} (w : Wf s) : Ev S cf (alloc o) s s.n (insT s o) 1 := by
  unfold Ev alloc; simp only [evS_pure, evS_rule, evS_at, evS_point, evS_ask, evS_fresh, evS_load, evS_update, evS_alloc, evS_call]; rw [full_room _ _ w]; rfl
theorem ev_entries {a : Addr} {q : Option Value} {s : SharedT} {es : Array DictEntry} {ep : Nat} (h : getT s a = some (dictO es ep)) : Ev S cf (dictEntries a q) s es s 1 :=
  Ev.cast (ev_bind (ev_load h) (ev_pure es s)) rfl
theorem ev_epoch {a : Addr} {q : Option Value} {s : SharedT} {es : Array DictEntry} {ep : Nat} (h : getT s a = some (dictO es ep)) : Ev S cf (dictEpoch a q) s ep s 1 :=
  Ev.cast (ev_bind (ev_load h) (ev_pure ep s)) rfl
theorem ev_keys {a : Addr} {q : Option Value} {f : Array DictEntry → Array DictEntry} {s : SharedT} {es : Array DictEntry} {ep : Nat} (hk : okA a = true) (h : getT s a = some (dictO es ep)) (hs : (f es).size ≤ sizeLine + 1) :
    Ev S cf (updateDictKeys a f q) s () (putD s a (f es) (ep + 1)) 3 := by
  unfold updateDictKeys
  refine ev_bind (n := 1) (m := 2) (ev_load h) ?_
  dsimp only
  refine ev_bind (n := 1) (m := 1) (ev_update hk h) ?_
  rw [set_keys h]
  unfold lookBehind
  refine ev_bind (n := 1) (m := 0) (ev_load (getT_put h)) ?_
  have e : (dictO (f es) (ep + 1)).data.pastItsLine = none := by
    show (if (f es).size > sizeLine + 1 then _ else none) = _
    rw [if_neg (by omega)]
  rw [e]; rfl
noncomputable def NoHash (h : Int) (es : Array DictEntry) : Prop := ∀ e ∈ es, e.hash ≠ h
theorem noPlaces {h : Int} {es : Array DictEntry} (hn : NoHash h es) : placesWithHash es.size (fun i => es[i]?.map (·.hash)) h = [] := by
  unfold placesWithHash
  refine List.filter_eq_nil_iff.mpr fun i hi => ?_
  have hl : i < es.size := List.mem_range.mp hi
  show ¬ (Option.map (fun x => x.hash) es[i]? == some h) = true
  rw [Array.getElem?_eq_getElem hl]
  simp only [Option.map_some, beq_iff_eq, Option.some.injEq]
  exact hn _ (Array.getElem_mem hl)
theorem ev_find {d : Addr} {k : Int} {t : Tok} {h : Int} {s : SharedT} {es : Array DictEntry} {ep : Nat} (hd : getT s d = some (dictO es ep)) (hn : NoHash h es) : Ev S cf (dictFind d (.int k t) h) s none s 1 := by
  unfold dictFind
  refine ev_holding ?_
  refine ev_bind (n := 1) (m := 0) (ev_entries hd) ?_
  dsimp only
  rw [noPlaces hn]
  rfl
theorem ev_put {d : Addr} {k : Int} {t : Tok} {v : Value} {h : Int} {s : SharedT} {es : Array DictEntry} {ep : Nat} (hk : okA d = true) (hd : getT s d = some (dictO es ep)) (hn : NoHash h es) (hs : es.size ≤ sizeLine) :
    Ev S cf (dictPut d h (.int k t) v) s () (putD s d (es.push ⟨h, .int k t, v⟩) (ep + 1)) 4 := by
  unfold dictPut
  exact Ev.cast (ev_bind (ev_find hd hn) (ev_keys hk hd (by simp; omega))) rfl
end
end Mine
end
section
set_option Elab.async false
set_option maxRecDepth 100000
namespace Mine
open PySem PySem.W PyProof.Rows
theorem bindSpecial_int (k : Int) (t : Tok) : bindSpecial (.builtin "int.__hash__") (.int k t) = pure (.builtin "int.__hash__", [.int k t]) := by kernel_rfl
section
variable {S : Setting}
theorem ev_call_hash (k : Int) (t : Tok) (s : SharedT) : Ev S (evC S 3) (call (.builtin "int.__hash__") [.int k t] []) s (.int (PySem.rawHash k) s.toks) (tokT s) 4 := by
  unfold Ev call runValue run
  show evS S (evC S 3) (Sem.bind (.call (.call (.builtin "int.__hash__") ⟨[.int k t], []⟩) none false [] _) _) s = _
  simp only [Sem.bind, evS, code_int_hash]
  rfl
theorem ev_hash (k : Int) (t : Tok) (s : SharedT) : Ev S (evC S 3) (pyHash (.int k t)) s (hashInt k) (tokT s) 5 := by
  have hr := rawHash_range k
  unfold pyHash pyHashByItsType
  show Ev S _ (cRoomFor "hash" [.int k t] >>= _) _ _ _ _
  have e0 : cRoomFor "hash" [Value.int k t] = pure () := rfl
  rw [e0, specialOf_int]
  show Ev S _ ((callSpecialIfBoundUnlessNone? (.int k t) "__hash__" _) >>= _) _ _ _ _
  refine Ev.cast (ev_bind (a := some (.int (PySem.rawHash k) s.toks)) (s1 := tokT s) (n := 5) (m := 0) ?_ ?_) rfl
  · unfold callSpecialIfBoundUnlessNone?
    refine ev_holding ?_
    refine Ev.cast (ev_bind (a := some (.builtin "int.__hash__", [.int k t])) (s1 := s) (n := 1) (m := 4) ?_ ?_) rfl
    · unfold bindSpecialIfBound?
      rw [specialOf_int]
      show Ev S _ (ask >>= _) _ _ _ _
      refine Ev.cast (ev_bind (a := S) (s1 := s) (n := 1) (m := 0) rfl ?_) rfl
      (try dsimp only)
      rw [bindSpecial_int]
      split <;> rfl
    · dsimp only
      exact Ev.cast (ev_bind (ev_call_hash k t s) (ev_pure _ _)) rfl
  · dsimp only
    show Ev S _ (if (decide (-(2 : Int) ^ 63 ≤ PySem.rawHash k) && decide (PySem.rawHash k < 2 ^ 63)) = true then _ else _) _ _ _ _
    rw [if_pos (by rw [decide_eq_true hr.1, decide_eq_true hr.2]; rfl)]
    rfl
theorem ev_set {d : Addr} {k : Int} {t : Tok} {v : Value} {s : SharedT} {es : Array DictEntry} {ep : Nat} (hk : okA d = true) (hd : getT s d = some (dictO es ep)) (hn : NoHash (hashInt k) es) (hs : es.size ≤ sizeLine) :
    Ev S (evC S 3) (dictSet d (.int k t) v) s () (putD (tokT s) d (es.push ⟨hashInt k, .int k t, v⟩) (ep + 1)) 10 := by
  unfold dictSet
  refine ev_holding (Ev.cast (ev_bind (ev_hash k t s) (m := 5) ?_) rfl)
  unfold dictSetHashed
  refine ev_holding (Ev.cast (ev_bind (ev_find (s := tokT s) hd hn) (m := 4) ?_) rfl)
  dsimp only
  exact Ev.cast (ev_bind (ev_rule _ _) (ev_keys (s := tokT s) hk hd (by simp; omega))) rfl
end
end Mine
end
section
set_option Elab.async false
set_option maxRecDepth 100000
namespace Mine
open PySem PySem.W PyProof.Rows

noncomputable def tokN (s : SharedT) (k : Nat) : SharedT := ⟨s.tree, s.n, s.life, s.gens, s.drawn, s.toks + k, s.os⟩
theorem tokN_tokN (s : SharedT) (a b : Nat) : tokN (tokN s a) b = tokN s (a + b) := by simp [tokN, Nat.add_assoc]
theorem tokN_zero (s : SharedT) : tokN s 0 = s := rfl
theorem tokN_put {s : SharedT} {d : Addr} {es : Array DictEntry} {ep k : Nat} : tokN (putD s d es ep) k = putD (tokN s k) d es ep := rfl
theorem tokN_ins {s : SharedT} {o : Obj} {k : Nat} : tokN (insT s o) k = insT (tokN s k) o := rfl
theorem getT_tokN {s : SharedT} {k : Nat} {a : Addr} : getT (tokN s k) a = getT s a := rfl

noncomputable abbrev KV := Int × Str
noncomputable abbrev ent1 (x : KV) (t : Nat) : DictEntry := ⟨hashInt x.1, .int x.1 t, .str x.2 (t + 1)⟩
noncomputable def entL (t : Nat) : List KV → List DictEntry
  | [] => []
  | x :: r => ent1 x t :: entL (t + 3) r
noncomputable def entS (t : Nat) : List KV → List DictEntry
  | [] => []
  | x :: r => ent1 x t :: entS (t + 2) r
theorem entL_length (l : List KV) : ∀ t, (entL t l).length = l.length := by induction l with
  | nil => intro t; rfl
  | cons x r ih => intro t; simp [entL, ih]
theorem entS_length (l : List KV) : ∀ t, (entS t l).length = l.length := by induction l with
  | nil => intro t; rfl
  | cons x r ih => intro t; simp [entS, ih]
theorem entL_mem {e : DictEntry} (l : List KV) : ∀ t, e ∈ entL t l → ∃ x ∈ l, e.hash = hashInt x.1 ∧ ∃ t', e.key = .int x.1 t' := by induction l with
  | nil => intro t h; cases h
  | cons x r ih =>
    intro t h
    rcases List.mem_cons.mp h with rfl | h
    · exact ⟨x, .head _, rfl, t, rfl⟩
    · obtain ⟨y, hy, e1⟩ := ih _ h; exact ⟨y, .tail _ hy, e1⟩
theorem entS_mem {e : DictEntry} (l : List KV) : ∀ t, e ∈ entS t l → ∃ x ∈ l, e.hash = hashInt x.1 ∧ ∃ t', e.key = .int x.1 t' := by induction l with
  | nil => intro t h; cases h
  | cons x r ih =>
    intro t h
    rcases List.mem_cons.mp h with rfl | h
    · exact ⟨x, .head _, rfl, t, rfl⟩
    · obtain ⟨y, hy, e1⟩ := ih _ h; exact ⟨y, .tail _ hy, e1⟩

section
variable {S : Setting}
noncomputable abbrev CF (S : Setting) := evC S 3
structure PairOk (S : Setting) (p : Sem Value × Sem Value) (x : KV) : Prop where
  k : ∀ s, Ev S (CF S) p.1 s (.int x.1 s.toks) (tokN s 1) 1
  v : ∀ s, Ev S (CF S) p.2 s (.str x.2 s.toks) (tokN s 1) 2
inductive PairsOk (S : Setting) : List (Sem Value × Sem Value) → List KV → Prop
  | nil : PairsOk S [] []
  | cons {p x ps xs} : PairOk S p x → PairsOk S ps xs → PairsOk S (p :: ps) (x :: xs)
theorem PairsOk.length {ps : List (Sem Value × Sem Value)} {xs : List KV} (h : PairsOk S ps xs) : ps.length = xs.length := by
  induction h with
  | nil => rfl
  | cons _ _ ih => simp [ih]
theorem PairsOk.snoc {ps : List (Sem Value × Sem Value)} {xs : List KV} {p : Sem Value × Sem Value} {x : KV} (h : PairsOk S ps xs) (h1 : PairOk S p x) : PairsOk S (ps ++ [p]) (xs ++ [x]) := by
  induction h with
  | nil => exact .cons h1 .nil
  | cons a _ ih => exact .cons a ih

/-- no key of l is in es, and none twice in l -/
noncomputable def Apart (es : List DictEntry) (l : List KV) : Prop := (∀ e ∈ es, ∀ x ∈ l, e.hash ≠ hashInt x.1) ∧ l.Pairwise (fun a b => hashInt a.1 ≠ hashInt b.1)
theorem Apart.head {es : List DictEntry} {x : KV} {l : List KV} (h : Apart es (x :: l)) : NoHash (hashInt x.1) es.toArray := fun e he => h.1 e (by simpa using he) x (.head _)
theorem Apart.tail {es : List DictEntry} {x : KV} {l : List KV} {t : Nat} {v : Value} (h : Apart es (x :: l)) : Apart (es ++ [⟨hashInt x.1, .int x.1 t, v⟩]) l := by
  obtain ⟨h1, h2⟩ := h
  obtain ⟨h3, h4⟩ := List.pairwise_cons.mp h2
  refine ⟨fun e he y hy => ?_, h4⟩
  rcases List.mem_append.mp he with he | he
  · exact h1 e he y (.tail _ hy)
  · rw [List.mem_singleton.mp he]; exact h3 y hy

theorem ev_forLong {d : Addr} {f : Sem Value × Sem Value → PUnit → Sem (ForInStep PUnit)} (hk : okA d = true)
    (hf : ∀ k v, f (k, v) PUnit.unit = (do let kv ← k; let vv ← holding [kv] v; holding [kv, vv] (dictSet d kv vv); pure (ForInStep.yield ⟨⟩))) {ps : List (Sem Value × Sem Value)} {l : List KV} (P : PairsOk S ps l) :
    ∀ (s : SharedT) (es : List DictEntry) (ep : Nat), getT s d = some (dictO es.toArray ep) → Apart es l → es.length + l.length ≤ 4096 →
      Ev S (CF S) (forIn ps PUnit.unit f) s ⟨⟩ (putD (tokN s (3 * l.length)) d (es ++ entL s.toks l).toArray (ep + l.length)) (13 * l.length) := by
  induction P with
  | nil =>
    intro s es ep hd ha hs
    have e : putD s d es.toArray ep = s := by
      obtain ⟨o', h1, h2⟩ := tree_of_getT hd
      obtain rfl := alive_inv h2
      unfold putD setT
      rw [show (fun _ => dictO es.toArray ep) = (fun _ : Obj => dictO es.toArray ep) from rfl]
      have : ∀ (T : BT) (i : Nat) (o : Obj), T.get i = some o → T.set i (fun _ => o) = T := by
        intro T
        induction T with
        | nil => intro i o h; rfl
        | node v l r il ir =>
          intro i o h
          rw [BT.get_node] at h
          rw [BT.set_node]
          by_cases h0 : i = 0
          · rw [if_pos h0] at h; cases h; rw [if_pos h0]
          · rw [if_neg h0] at h ⊢
            by_cases h1 : i % 2 = 1
            · rw [if_pos h1] at h ⊢; rw [il _ _ h]
            · rw [if_neg h1] at h ⊢; rw [ir _ _ h]
      rw [this _ _ _ h1]
    simp only [List.length_nil, Nat.mul_zero, tokN_zero, entL, List.append_nil, Nat.add_zero, e]
    rfl
  | @cons p x ps xs hp _ ih =>
    intro s es ep hd ha hs
    obtain ⟨k, v⟩ := p
    rw [List.forIn_cons, hf]
    have hs' : es.length + (xs.length + 1) ≤ 4096 := hs
    have q := ih (putD (tokN s 3) d (es ++ [ent1 x s.toks]).toArray (ep + 1)) _ (ep + 1) (getT_put (s := tokN s 3) hd) ha.tail (by simp; omega)
    have e1 : putD (tokN (putD (tokN s 3) d (es ++ [ent1 x s.toks]).toArray (ep + 1)) (3 * xs.length)) d (es ++ [ent1 x s.toks] ++ entL (s.toks + 3) xs).toArray (ep + 1 + xs.length) =
        putD (tokN s (3 * (xs.length + 1))) d (es ++ entL s.toks (x :: xs)).toArray (ep + (xs.length + 1)) := by
      rw [tokN_put, put_put, tokN_tokN]
      simp only [entL, List.append_assoc, List.singleton_append]
      rw [show 3 + 3 * xs.length = 3 * (xs.length + 1) by omega, show ep + 1 + xs.length = ep + (xs.length + 1) by omega]
    refine Ev.cast (ev_bind (n := 13) (m := 13 * xs.length) (a := ForInStep.yield PUnit.unit) (s1 := putD (tokN s 3) d (es ++ [ent1 x s.toks]).toArray (ep + 1)) ?_ ?_) (by simp only [List.length_cons]; omega)
    · refine ev_bind (n := 1) (m := 12) (hp.k s) ?_
      refine ev_bind (n := 2) (m := 10) (ev_holding (hp.v _)) ?_
      refine ev_bind (n := 10) (m := 0) (ev_holding (ev_set (s := tokN (tokN s 1) 1) hk hd ha.head (by rw [PySem.sizeLine_eq]; simp; omega))) ?_
      rw [show (es ++ [ent1 x s.toks]).toArray = es.toArray.push (ent1 x s.toks) by simp]
      rfl
    · show Ev S (CF S) (forIn ps PUnit.unit f) _ _ _ _
      rw [show (x :: xs).length = xs.length + 1 from rfl, ← e1]
      exact q
end
end Mine
end
section
set_option Elab.async false
set_option maxRecDepth 100000
namespace Mine
open PySem PySem.W PyProof.Rows
section
variable {S : Setting}

theorem ev_evalPairs {ps : List (Sem Value × Sem Value)} {l : List KV} (P : PairsOk S ps l) :
    ∀ (s : SharedT), ∃ vs : List (Value × Value), Ev S (CF S) (evalPairs ps) s vs (tokN s (2 * l.length)) (3 * l.length) ∧ vs.length = l.length ∧
      ∀ i x, l[i]? = some x → vs[i]? = some (Value.int x.1 (s.toks + 2 * i), Value.str x.2 (s.toks + 2 * i + 1)) := by
  induction P with
  | nil => intro s; exact ⟨[], rfl, rfl, fun i x h => by simp at h⟩
  | @cons p x ps xs hp _ ih =>
    intro s
    obtain ⟨k, v⟩ := p
    obtain ⟨vs, h1, h2, h3⟩ := ih (tokN s 2)
    refine ⟨(.int x.1 s.toks, .str x.2 (s.toks + 1)) :: vs, ?_, by simp [h2], ?_⟩
    · unfold evalPairs
      refine Ev.cast (ev_bind (n := 1) (m := 2 + 3 * xs.length) (hp.k s) ?_) (by simp only [List.length_cons]; omega)
      refine ev_bind (n := 2) (m := 3 * xs.length) (ev_holding (hp.v _)) ?_
      refine Ev.cast (ev_bind (n := 3 * xs.length) (m := 0) (ev_holding h1) ?_) rfl
      rw [tokN_tokN, show 2 + 2 * xs.length = 2 * (x :: xs).length by simp only [List.length_cons]; omega]
      rfl
    · intro i y hi
      cases i with
      | zero =>
        simp only [List.getElem?_cons_zero, Option.some.injEq] at hi
        subst hi; rfl
      | succ i =>
        simp only [List.getElem?_cons_succ] at hi ⊢
        rw [h3 i y hi]
        show some (Value.int y.1 (s.toks + 2 + 2 * i), Value.str y.2 (s.toks + 2 + 2 * i + 1)) = _
        rw [show s.toks + 2 + 2 * i = s.toks + 2 * (i + 1) by omega]
noncomputable def entV (vs : List (Value × Value)) (l : List KV) : List DictEntry := (l.zip vs).map fun p => ⟨hashInt p.1.1, p.2.1, p.2.2⟩
theorem ev_forShort {d : Addr} {f : Value × Value → PUnit → Sem (ForInStep PUnit)} (hk : okA d = true)
    (hf : ∀ k v, f (k, v) PUnit.unit = (do dictSet d k v; pure (ForInStep.yield PUnit.unit))) (l : List KV) :
    ∀ (t : Nat) (vs : List (Value × Value)) (s : SharedT) (es : List DictEntry) (ep : Nat), vs.length = l.length → (∀ i x, l[i]? = some x → vs[i]? = some (Value.int x.1 (t + 2 * i), Value.str x.2 (t + 2 * i + 1))) →
      getT s d = some (dictO es.toArray ep) → Apart es l → es.length + l.length ≤ 4096 →
      Ev S (CF S) (forIn vs PUnit.unit f) s PUnit.unit (putD (tokN s l.length) d (es ++ entS t l).toArray (ep + l.length)) (10 * l.length) := by
  induction l with
  | nil =>
    intro t vs s es ep hv _ hd ha hs
    have hv : vs = [] := List.length_eq_zero_iff.mp hv
    subst hv
    have q := ev_forLong (S := S) (d := d) (f := fun p _ => (do let kv ← p.1; let vv ← holding [kv] p.2; holding [kv, vv] (dictSet d kv vv); pure (ForInStep.yield PUnit.unit))) hk (fun _ _ => rfl) .nil s es ep hd ha hs
    exact q
  | cons x xs ih =>
    intro t vs s es ep hv hx hd ha hs
    cases vs with
    | nil => cases hv
    | cons v vs =>
      have e := hx 0 x rfl
      simp only [List.getElem?_cons_zero, Option.some.injEq] at e
      subst e
      have hs' : es.length + (xs.length + 1) ≤ 4096 := hs
      have q := ih (t + 2) vs (putD (tokN s 1) d (es ++ [ent1 x t]).toArray (ep + 1)) (es ++ [ent1 x t]) (ep + 1) (by simpa using hv)
        (fun i y hi => by
          have := hx (i + 1) y (by simpa using hi)
          simp only [List.getElem?_cons_succ] at this
          rw [this, show t + 2 * (i + 1) = t + 2 + 2 * i by omega]) (getT_put (s := tokN s 1) hd) ha.tail (by simp; omega)
      rw [List.forIn_cons, hf]
      have e1 : putD (tokN (putD (tokN s 1) d (es ++ [ent1 x t]).toArray (ep + 1)) xs.length) d (es ++ [ent1 x t] ++ entS (t + 2) xs).toArray (ep + 1 + xs.length) = putD (tokN s (xs.length + 1)) d (es ++ entS t (x :: xs)).toArray (ep + (xs.length + 1)) := by
        rw [tokN_put, put_put, tokN_tokN]
        simp only [entS, List.append_assoc, List.singleton_append]
        rw [show 1 + xs.length = xs.length + 1 by omega, show ep + 1 + xs.length = ep + (xs.length + 1) by omega]
      refine Ev.cast (ev_bind (n := 10) (m := 10 * xs.length) (a := ForInStep.yield PUnit.unit) (s1 := putD (tokN s 1) d (es ++ [ent1 x t]).toArray (ep + 1)) ?_ ?_) (by simp only [List.length_cons]; omega)
      · refine ev_bind (n := 10) (m := 0) (ev_set (s := s) hk hd ha.head (by rw [PySem.sizeLine_eq]; simp; omega)) ?_
        rw [show (es ++ [ent1 x t]).toArray = es.toArray.push (ent1 x t) by simp]
        rfl
      · show Ev S (CF S) (forIn vs PUnit.unit f) _ _ _ _
        rw [show (x :: xs).length = xs.length + 1 from rfl, ← e1]
        exact q

noncomputable def entsOf (t : Nat) (l : List KV) : List DictEntry := if l.length ≤ 15 then entS t l else entL t l
noncomputable def costOf (n : Nat) : Nat := if n ≤ 15 then 1 + 13 * n else 2 + 13 * n
theorem entsOf_length (t : Nat) (l : List KV) : (entsOf t l).length = l.length := by unfold entsOf; split; exact entS_length l t; exact entL_length l t
theorem entsOf_mem {e : DictEntry} {t : Nat} {l : List KV} (h : e ∈ entsOf t l) : ∃ x ∈ l, e.hash = hashInt x.1 ∧ ∃ t', e.key = .int x.1 t' := by
  unfold entsOf at h; split at h; exact entS_mem l t h; exact entL_mem l t h
theorem ev_subDict {ps : List (Sem Value × Sem Value)} {l : List KV} (P : PairsOk S ps l) {s : SharedT} (w : Wf s) (hn : Nat.ble 11 s.n = true) (ha : Apart [] l) (hs : l.length ≤ 4096) :
    Ev S (CF S) (subDict ps) s s.n (insT (tokN s (3 * l.length)) (dictO (entsOf s.toks l).toArray l.length)) (costOf l.length) := by
  have hok : okA s.n = true := by unfold okA; rw [hn]; rfl
  have e0 : ({ cls := .type "dict", data := .dict #[] } : Obj) = dictO ([] : List DictEntry).toArray 0 := rfl
  unfold subDict
  rw [e0]
  unfold entsOf costOf
  by_cases hl : l.length ≤ 15
  · rw [if_pos hl, if_pos hl]
    refine Ev.cast (ev_bind (n := 1) (m := 13 * l.length) (ev_alloc w) ?_) rfl
    refine Ev.cast (ev_bind (a := ()) (n := 13 * l.length) (m := 0) (ev_holding ?_) (ev_pure _ _)) rfl
    rw [if_pos (by rw [P.length]; exact hl)]
    obtain ⟨vs, h1, h2, h3⟩ := ev_evalPairs P (insT s (dictO ([] : List DictEntry).toArray 0))
    refine Ev.cast (ev_bind (n := 3 * l.length) (m := 10 * l.length) h1 ?_) (by omega)
    refine ev_holding ?_
    refine Ev.cast (ev_bind (n := 10 * l.length) (m := 0) (ev_forShort hok (fun _ _ => rfl) l s.toks vs _ [] 0 h2 h3 (getT_ins w) ha (by simpa using hs)) ?_) rfl
    show Ev S (CF S) (pure ()) _ _ _ _
    have e1 : putD (tokN (tokN (insT s (dictO ([] : List DictEntry).toArray 0)) (2 * l.length)) l.length) s.n ([] ++ entS s.toks l).toArray (0 + l.length) = insT (tokN s (3 * l.length)) (dictO (entS s.toks l).toArray l.length) := by
      rw [tokN_tokN, tokN_ins, List.nil_append, Nat.zero_add, show 2 * l.length + l.length = 3 * l.length by omega]
      exact put_ins (s := tokN s (3 * l.length)) w
    rw [e1]; rfl
  · rw [if_neg hl, if_neg hl]
    refine Ev.cast (ev_bind (n := 1) (m := 1 + 13 * l.length) (ev_alloc w) ?_) (by omega)
    refine Ev.cast (ev_bind (a := ()) (n := 1 + 13 * l.length) (m := 0) (ev_holding ?_) (ev_pure _ _)) rfl
    rw [if_neg (by rw [P.length]; exact hl)]
    refine Ev.cast (ev_bind (n := 1) (m := 13 * l.length) (ev_rule _ _) ?_) rfl
    refine Ev.cast (ev_bind (n := 13 * l.length) (m := 0) (ev_forLong (s := insT s (dictO ([] : List DictEntry).toArray 0)) (es := []) (ep := 0) hok (fun _ _ => rfl) P (getT_ins w) ha (by simpa using hs)) ?_) rfl
    show Ev S (CF S) (pure ()) _ _ _ _
    have e1 : putD (tokN (insT s (dictO ([] : List DictEntry).toArray 0)) (3 * l.length)) s.n ([] ++ entL s.toks l).toArray (0 + l.length) = insT (tokN s (3 * l.length)) (dictO (entL s.toks l).toArray l.length) := by
      rw [tokN_ins, List.nil_append, Nat.zero_add]
      exact put_ins (s := tokN s (3 * l.length)) w
    show Ev S (CF S) (pure ()) (putD (tokN (insT s (dictO ([] : List DictEntry).toArray 0)) (3 * l.length)) s.n ([] ++ entL s.toks l).toArray (0 + l.length)) _ _ _
    rw [e1]; rfl
end
end Mine
end
section
set_option Elab.async false
set_option maxRecDepth 100000
namespace Mine
open PySem PySem.W PyProof.Rows
theorem sub_dict_dict : isSubtype (.type "dict") (.type "dict") = pure true := by kernel_rfl
theorem look_dict_iter : typeLookup (.type "dict") "__iter__" = pure (some (.builtin "dict.__iter__")) := by kernel_rfl
section
variable {S : Setting} {cf : Code → SharedT → Rv Flow}
theorem ev_typeOf {a : Addr} {s : SharedT} {es : Array DictEntry} {ep : Nat} (h : getT s a = some (dictO es ep)) : Ev S cf (typeOf (.ref a)) s (.type "dict") s 1 :=
  Ev.cast (ev_bind (ev_load h) (ev_pure _ s)) rfl
theorem ev_isDict {a : Addr} {s : SharedT} {es : Array DictEntry} {ep : Nat} (h : getT s a = some (dictO es ep)) : Ev S cf (isInstance (.ref a) (.type "dict")) s true s 1 := by
  unfold isInstance
  refine Ev.cast (ev_bind (n := 1) (m := 0) (ev_typeOf h) ?_) rfl
  rw [sub_dict_dict]; rfl
theorem ev_iterOf {a : Addr} {s : SharedT} {es : Array DictEntry} {ep : Nat} (h : getT s a = some (dictO es ep)) : Ev S cf (specialOf (.ref a) "__iter__") s (some (.builtin "dict.__iter__")) s 1 := by
  unfold specialOf
  refine Ev.cast (ev_bind (n := 1) (m := 0) (ev_typeOf h) ?_) rfl
  rw [look_dict_iter]; rfl
noncomputable def IntKeyed (es : List DictEntry) : Prop := ∀ e ∈ es, ∃ k t, e.key = .int k t
theorem ev_mergeLoop {d a : Addr} {f : Nat → PUnit → Sem (ForInStep PUnit)} (hk : okA d = true) (hne : a ≠ d) (sub : List DictEntry) (ep2 : Nat)
    (hf : ∀ i, f i PUnit.unit = (do
      let __do_lift ← dictEntries a
      match __do_lift[i]? with
        | some e => do
          holding [e.key, e.val] (dictPut d e.hash e.key e.val)
          let __do_lift ← dictEpoch a
          if (__do_lift != ep2) = true then do
              unsupported "dict.changed-during-merge"
              pure (ForInStep.yield PUnit.unit)
            else pure (ForInStep.yield PUnit.unit)
        | _ => do
          unsupported "dict.changed-during-merge"
          pure (ForInStep.yield PUnit.unit))) (hi : IntKeyed sub) :
    ∀ (n j : Nat) (s : SharedT) (es : List DictEntry) (ep : Nat), j + n = sub.length → getT s d = some (dictO es.toArray ep) → getT s a = some (dictO sub.toArray ep2) →
      (∀ e ∈ es, ∀ x ∈ sub.drop j, e.hash ≠ x.hash) → (sub.drop j).Pairwise (fun x y => x.hash ≠ y.hash) → es.length + n ≤ 4096 →
      Ev S cf (forIn (List.range' j n) PUnit.unit f) s PUnit.unit (putD s d (es ++ sub.drop j).toArray (ep + n)) (6 * n) := by
  intro n
  induction n with
  | zero =>
    intro j s es ep hj hd ha h1 h2 h3
    have e1 : sub.drop j = [] := List.drop_eq_nil_of_le (by omega)
    rw [e1, List.append_nil]
    have q := ev_forLong (S := S) (d := d) (f := fun p _ => (do let kv ← p.1; let vv ← holding [kv] p.2; holding [kv, vv] (dictSet d kv vv); pure (ForInStep.yield PUnit.unit))) hk (fun _ _ => rfl) .nil s es ep hd ⟨fun _ _ _ h => (nomatch h), .nil⟩ (by simp; omega)
    simp only [List.length_nil, Nat.mul_zero, tokN_zero, entL, List.append_nil, Nat.add_zero] at q
    have e2 : s = putD s d es.toArray ep := by
      have : evS S (CF S) (pure PUnit.unit) s = some (PUnit.unit, putD s d es.toArray ep, 0) := q
      have : (some (PUnit.unit, s, 0) : Rv PUnit) = some (PUnit.unit, putD s d es.toArray ep, 0) := this
      exact (Prod.mk.inj (Prod.mk.inj (Option.some.inj this)).2).1
    show (some (PUnit.unit, s, 0) : Rv PUnit) = some (PUnit.unit, putD s d es.toArray (ep + 0), 6 * 0)
    rw [Nat.add_zero, ← e2]
  | succ n ih =>
    intro j s es ep hj hd ha h1 h2 h3
    have hjl : j < sub.length := by omega
    have e1 : sub.drop j = sub[j] :: sub.drop (j + 1) := List.drop_eq_getElem_cons hjl
    rw [e1] at h1 h2 ⊢
    obtain ⟨p1, p2⟩ := List.pairwise_cons.mp h2
    obtain ⟨k, t, hkey⟩ := hi _ (List.getElem_mem hjl)
    rw [List.range'_succ, List.forIn_cons, hf]
    have q := ih (j + 1) (putD s d (es ++ [sub[j]]).toArray (ep + 1)) (es ++ [sub[j]]) (ep + 1) (by omega) (getT_put hd) (by rw [getT_put_ne hne]; exact ha)
      (fun e he x hx => by
        rcases List.mem_append.mp he with he | he
        · exact h1 e he x (.tail _ hx)
        · rw [List.mem_singleton.mp he]; exact p1 x hx) p2 (by simp; omega)
    refine Ev.cast (ev_bind (n := 6) (m := 6 * n) (a := ForInStep.yield PUnit.unit) (s1 := putD s d (es ++ [sub[j]]).toArray (ep + 1)) ?_ ?_) (by omega)
    · refine ev_bind (n := 1) (m := 5) (ev_entries ha) ?_
      have e2 : sub.toArray[j]? = some sub[j] := by simp [hjl]
      rw [e2]
      dsimp only
      have hno : NoHash sub[j].hash es.toArray := fun e he => h1 e (by simpa using he) _ (.head _)
      have hp : Ev S cf (dictPut d sub[j].hash sub[j].key sub[j].val) s () (putD s d (es ++ [sub[j]]).toArray (ep + 1)) 4 := by
        have := ev_put (S := S) (cf := cf) (d := d) (k := k) (t := t) (v := sub[j].val) hk hd hno (by rw [PySem.sizeLine_eq]; simp; omega)
        rw [← hkey] at this
        rw [show (es ++ [sub[j]]).toArray = es.toArray.push ⟨sub[j].hash, sub[j].key, sub[j].val⟩ by simp]
        exact this
      refine ev_bind (n := 4) (m := 1) (ev_holding hp) ?_
      refine Ev.cast (ev_bind (n := 1) (m := 0) (ev_epoch (by rw [getT_put_ne hne]; exact ha)) ?_) rfl
      rw [if_neg (by simp)]
      rfl
    · show Ev S cf (forIn (List.range' (j + 1) n) PUnit.unit f) _ _ _ _
      have e3 : putD (putD s d (es ++ [sub[j]]).toArray (ep + 1)) d (es ++ [sub[j]] ++ sub.drop (j + 1)).toArray (ep + 1 + n) = putD s d (es ++ sub[j] :: sub.drop (j + 1)).toArray (ep + (n + 1)) := by
        rw [put_put, List.append_assoc, List.singleton_append, show ep + 1 + n = ep + (n + 1) by omega]
      rw [← e3]
      exact q
theorem ev_merge {d a : Addr} {s : SharedT} {es sub : List DictEntry} {ep ep2 : Nat} (hk : okA d = true) (hne : a ≠ d) (hns : a ≠ sysModules) (hd : getT s d = some (dictO es.toArray ep)) (ha : getT s a = some (dictO sub.toArray ep2)) (hi : IntKeyed sub)
    (h0 : es ≠ []) (h1 : ∀ e ∈ es, ∀ x ∈ sub, e.hash ≠ x.hash) (h2 : sub.Pairwise (fun x y => x.hash ≠ y.hash)) (h3 : es.length + sub.length ≤ 4096) :
    Ev S cf (mergeMapping d (.ref a) false) s () (putD s d (es ++ sub).toArray (ep + sub.length)) (5 + 6 * sub.length) := by
  unfold mergeMapping
  refine Ev.cast (ev_bind (n := 1) (m := 4 + 6 * sub.length) (ev_isDict ha) ?_) (by omega)
  dsimp only
  rw [if_pos rfl]
  refine Ev.cast (ev_bind (n := 1) (m := 3 + 6 * sub.length) (ev_iterOf ha) ?_) (by omega)
  show Ev S cf (pure true >>= _) _ _ _ _
  refine Ev.cast (ev_bind (n := 0) (m := 3 + 6 * sub.length) (ev_pure true s) ?_) (by omega)
  dsimp only
  rw [if_neg (by simpa using hns)]
  refine Ev.cast (ev_bind (n := 1) (m := 2 + 6 * sub.length) (ev_entries hd) ?_) (by omega)
  rw [if_neg (by cases es with | nil => exact absurd rfl h0 | cons => simp)]
  refine Ev.cast (ev_bind (n := 1) (m := 1 + 6 * sub.length) (ev_entries ha) ?_) (by omega)
  (try dsimp only)
  refine Ev.cast (ev_bind (n := 1) (m := 6 * sub.length) (ev_epoch ha) ?_) (by omega)
  refine Ev.cast (ev_bind (n := 6 * sub.length) (m := 0) (a := PUnit.unit) (s1 := putD s d (es ++ sub).toArray (ep + sub.length)) ?_ (ev_pure _ _)) rfl
  rw [List.range_eq_range', List.size_toArray]
  exact ev_mergeLoop hk hne sub ep2 (fun _ => rfl) hi sub.length 0 s es ep (by omega) hd ha (by simpa using h1) (by simpa using h2) h3
end
end Mine
end
section
set_option Elab.async false
set_option maxRecDepth 100000
namespace Mine
open PySem PySem.W PyProof.Rows

/-- where the display's loop stands: the main dict's address and entries, the run gathered, the state, the steps -/
structure DSt where
  main : Option Addr
  es : List DictEntry
  ep : Nat
  s : SharedT
  n : Nat
noncomputable def flushD (run : List KV) (x : DSt) : DSt := match run with
  | [] => x
  | _ :: _ => match x.main with
    | none => ⟨some x.s.n, entsOf x.s.toks run, run.length, insT (tokN x.s (3 * run.length)) (dictO (entsOf x.s.toks run).toArray run.length), x.n + costOf run.length⟩
    | some d => ⟨some d, x.es ++ entsOf x.s.toks run, x.ep + run.length,
        putD (insT (tokN x.s (3 * run.length)) (dictO (entsOf x.s.toks run).toArray run.length)) d (x.es ++ entsOf x.s.toks run).toArray (x.ep + run.length), x.n + (costOf run.length + (5 + 6 * run.length))⟩
noncomputable def loopD : List KV → List KV → DSt → DSt
  | run, [], x => flushD run x
  | run, y :: r, x => match run.length == 16 with
    | true => loopD [] r (flushD (run ++ [y]) x)
    | false => loopD (run ++ [y]) r x
noncomputable def DOk (x : DSt) : Prop := Wf x.s ∧ Nat.ble 11 x.s.n = true ∧ (match x.main with
  | none => x.es = []
  | some d => okA d = true ∧ x.es ≠ [] ∧ getT x.s d = some (dictO x.es.toArray x.ep))
section
variable {S : Setting}
theorem apart_app {es : List DictEntry} {a b : List KV} (h : Apart es (a ++ b)) : Apart es a := ⟨fun e he x hx => h.1 e he x (List.mem_append.mpr (.inl hx)), (List.pairwise_append.mp h.2).1⟩
theorem apart_nil {es : List DictEntry} {a : List KV} (h : Apart es a) : Apart [] a := ⟨fun _ h => (nomatch h), h.2⟩
theorem apart_after {es : List DictEntry} {a b : List KV} {t : Nat} (h : Apart es (a ++ b)) : Apart (es ++ entsOf t a) b := by
  obtain ⟨h1, h2⟩ := h
  obtain ⟨p1, p2, p3⟩ := List.pairwise_append.mp h2
  refine ⟨fun e he x hx => ?_, p2⟩
  rcases List.mem_append.mp he with he | he
  · exact h1 e he x (List.mem_append.mpr (.inr hx))
  · obtain ⟨y, hy, e1, _⟩ := entsOf_mem he
    rw [e1]; exact p3 y hy x hx
theorem ents_pairwise {a : List KV} (t : Nat) (h : a.Pairwise (fun x y => hashInt x.1 ≠ hashInt y.1)) : (entsOf t a).Pairwise (fun x y => x.hash ≠ y.hash) := by
  unfold entsOf
  split
  · revert t
    induction a with
    | nil => intro t; exact .nil
    | cons x r ih =>
      intro t
      rename_i hl
      obtain ⟨p1, p2⟩ := List.pairwise_cons.mp h
      refine List.pairwise_cons.mpr ⟨fun e he => ?_, ih p2 (by simp only [List.length_cons] at hl; omega) _⟩
      obtain ⟨y, hy, e1, _⟩ := entS_mem _ _ he
      rw [e1]; exact p1 y hy
  · rename_i hlen
    clear hlen
    revert t
    induction a with
    | nil => intro t; exact .nil
    | cons x r ih =>
      intro t
      obtain ⟨p1, p2⟩ := List.pairwise_cons.mp h
      refine List.pairwise_cons.mpr ⟨fun e he => ?_, ih p2 _⟩
      obtain ⟨y, hy, e1, _⟩ := entL_mem _ _ he
      rw [e1]; exact p1 y hy
theorem ents_keyed (t : Nat) (a : List KV) : IntKeyed (entsOf t a) := fun e he => by
  obtain ⟨x, _, _, t', e1⟩ := entsOf_mem he
  exact ⟨x.1, t', e1⟩

noncomputable def flushT (run : List (Sem Value × Sem Value)) (main : Option Addr) : Sem (Option Addr) :=
  if run.isEmpty = true then pure main
  else
    match main with
    | none => do
      let __do_lift ← subDict run
      pure (some __do_lift)
    | some d => do
      let sub ← holding [Value.ref d] (subDict run)
      (holding [Value.ref d, Value.ref sub] (mergeMapping d (Value.ref sub) false)).onRaise fun x => do
          let _ ← holding [Value.ref d, x] (runValue (Code.builtin "proto.let_go" { }))
          pure ()
      pure (some d)
theorem ev_flush {ps : List (Sem Value × Sem Value)} {run : List KV} (P : PairsOk S ps run) {x : DSt} (hx : DOk x) (ha : Apart x.es run) (hs : x.es.length + run.length ≤ 4096) :
    ∃ n, (flushD run x).n = x.n + n ∧ Ev S (CF S) (flushT ps x.main) x.s (flushD run x).main (flushD run x).s n ∧ DOk (flushD run x) := by
  obtain ⟨w, h11, hm⟩ := hx
  cases P with
  | nil => exact ⟨0, rfl, rfl, w, h11, hm⟩
  | @cons p y ps ys hp P =>
    have P' : PairsOk S (p :: ps) (y :: ys) := .cons hp P
    have hsub := ev_subDict P' w h11 (apart_nil ha) (by omega)
    have h11' : Nat.ble 11 (x.s.n + 1) = true := Nat.ble_eq_true_of_le (Nat.le_succ_of_le (Nat.le_of_ble_eq_true h11))
    unfold flushT
    rw [if_neg (by simp)]
    obtain ⟨main, es, ep, s, n⟩ := x
    cases main with
    | none =>
      refine ⟨costOf (y :: ys).length, rfl, ?_, ?_⟩
      · exact Ev.cast (ev_bind hsub (ev_pure _ _)) rfl
      · refine ⟨wf_ins (s := tokN s _) w, h11', ?_, ?_, ?_⟩
        · show okA s.n = true
          unfold okA
          rw [h11]; rfl
        · intro e
          have := congrArg List.length e
          rw [show (flushD (y :: ys) ⟨none, es, ep, s, n⟩).es = entsOf s.toks (y :: ys) from rfl, entsOf_length] at this
          simp at this
        · exact getT_ins (s := tokN s _) w
    | some d =>
      obtain ⟨hok, hne, hd⟩ := hm
      have hlt := lt_of_getT hd
      have hd1 : getT (insT (tokN s (3 * (y :: ys).length)) (dictO (entsOf s.toks (y :: ys)).toArray (y :: ys).length)) d = some (dictO es.toArray ep) := getT_ins_old (s := tokN s _) w hd
      have hmerge := ev_merge (S := S) (cf := CF S) (d := d) (a := s.n) hok (Nat.ne_of_gt hlt) (by have := Nat.le_of_ble_eq_true h11; intro e; rw [e] at this; exact absurd this (by decide)) hd1 (getT_ins (s := tokN s _) w) (ents_keyed _ _) hne
        (fun e he z hz => by obtain ⟨v, hv, e1, _⟩ := entsOf_mem hz; rw [e1]; exact ha.1 e he v hv) (ents_pairwise _ ha.2) (by rw [entsOf_length]; exact hs)
      rw [entsOf_length] at hmerge
      refine ⟨costOf (y :: ys).length + (5 + 6 * (y :: ys).length), rfl, ?_, ?_⟩
      · refine ev_bind (ev_holding hsub) ?_
        refine Ev.cast (ev_bind (n := 5 + 6 * (y :: ys).length) (m := 0) (a := ()) (evS_onRaise _ _ _ _ (ev_holding hmerge)) (ev_pure _ _)) rfl
      · refine ⟨wf_set (wf_ins (s := tokN s _) w), h11', hok, ?_, ?_⟩
        · intro e
          exact hne (List.append_eq_nil_iff.mp e).1
        · exact getT_put hd1
theorem ev_dispLoop {f : Option (Sem Value) × Sem Value → Option Addr × List (Sem Value × Sem Value) → Sem (ForInStep (Option Addr × List (Sem Value × Sem Value)))}
    (hf : ∀ k v main run, f (some k, v) (main, run) = if ((run ++ [(k, v)]).length == 17) = true then (do let main ← flushT (run ++ [(k, v)]) main; pure (ForInStep.yield (main, []))) else pure (ForInStep.yield (main, run ++ [(k, v)])))
    {g : Option Addr × List (Sem Value × Sem Value) → Sem Value} (hg : ∀ main run, g (main, run) = (do
      let __do_lift ← flushT run main
      match __do_lift with
        | some d => pure (Value.ref d)
        | none => newDict)) {ps : List (Sem Value × Sem Value)} {l : List KV} (P : PairsOk S ps l) :
    ∀ (run : List (Sem Value × Sem Value)) (rl : List KV) (x : DSt), PairsOk S run rl → rl.length ≤ 16 → DOk x → Apart x.es (rl ++ l) → x.es.length + (rl.length + l.length) ≤ 4096 → (x.main ≠ none ∨ rl ++ l ≠ []) →
      ∃ n d, (loopD rl l x).n = x.n + n ∧ (loopD rl l x).main = some d ∧ Ev S (CF S) (forIn (ps.map fun p => (some p.1, p.2)) (x.main, run) f >>= g) x.s (.ref d) (loopD rl l x).s n := by
  induction P with
  | nil =>
    intro run rl x R h16 hx ha hs hne
    rw [List.append_nil] at ha hne
    obtain ⟨n, e1, e2, e3⟩ := ev_flush R hx ha (by simpa using hs)
    have hm : ∃ d, (flushD rl x).main = some d := by
      cases rl with
      | nil =>
        rcases hne with hne | hne
        · cases hq : x.main with
          | none => exact absurd hq hne
          | some d => exact ⟨d, hq⟩
        · exact absurd rfl hne
      | cons y r =>
        unfold flushD
        cases hq : x.main with
        | none => exact ⟨_, rfl⟩
        | some d => exact ⟨_, rfl⟩
    obtain ⟨d, hm⟩ := hm
    refine ⟨n, d, e1, hm, ?_⟩
    show Ev S (CF S) (g (x.main, run)) _ _ _ _
    rw [hg]
    refine Ev.cast (ev_bind e2 (m := 0) ?_) rfl
    rw [hm]; rfl
  | @cons p y ps ys hp _ ih =>
    intro run rl x R h16 hx ha hs hne
    obtain ⟨k, v⟩ := p
    have hl : rl.length = run.length := R.length.symm
    rw [List.map_cons, List.forIn_cons, hf]
    have R' := R.snoc hp
    have ha' : Apart x.es ((rl ++ [y]) ++ ys) := by rw [List.append_assoc]; exact ha
    have hs' : x.es.length + (rl.length + (ys.length + 1)) ≤ 4096 := hs
    unfold loopD
    by_cases h : rl.length = 16
    · rw [if_pos (by simp [← hl, h]), show (rl.length == 16) = true by simp [h]]
      obtain ⟨n1, e1, e2, e3⟩ := ev_flush R' hx (apart_app ha') (by simp; omega)
      have hes : (flushD (rl ++ [y]) x).es = x.es ++ entsOf x.s.toks (rl ++ [y]) := by
        obtain ⟨main, es, ep, s, n⟩ := x
        cases rl with
        | nil => simp at h
        | cons z r =>
          cases main with
          | none =>
            have : es = [] := hx.2.2
            subst this; rfl
          | some d => rfl
      have hm : (flushD (rl ++ [y]) x).main ≠ none := by
        obtain ⟨main, es, ep, s, n⟩ := x
        cases rl with
        | nil => simp at h
        | cons z r => cases main <;> (intro e; cases e)
      obtain ⟨n2, d, i1, i2, i3⟩ := ih [] [] (flushD (rl ++ [y]) x) .nil (by simp) e3 (by rw [hes]; exact apart_after ha') (by rw [hes, List.length_append, entsOf_length]; simp; omega) (.inl hm)
      refine ⟨n1 + n2, d, by rw [i1, e1]; omega, i2, ?_⟩
      dsimp only
      have q : Ev S (CF S) (do let main ← flushT (run ++ [(k, v)]) x.main; pure (ForInStep.yield (main, ([] : List (Sem Value × Sem Value))))) x.s (ForInStep.yield ((flushD (rl ++ [y]) x).main, [])) (flushD (rl ++ [y]) x).s n1 := Ev.cast (ev_bind e2 (ev_pure _ _)) rfl
      unfold Ev at q i3 ⊢
      rw [evS_bind, evS_bind, q]
      show bindR (plusN n1 (evS S (CF S) (forIn (ps.map fun p => (some p.1, p.2)) ((flushD (rl ++ [y]) x).main, []) f) _)) _ = _
      rw [bindR_plusN, ← evS_bind, i3]; rfl
    · rw [if_neg (by simp [← hl]; omega), show (rl.length == 16) = false by simp [h]]
      obtain ⟨n2, d, i1, i2, i3⟩ := ih (run ++ [(k, v)]) (rl ++ [y]) x R' (by simp; omega) hx ha' (by simp; omega) (.inr (by simp))
      refine ⟨n2, d, i1, i2, ?_⟩
      exact i3
theorem ev_display {ps : List (Sem Value × Sem Value)} {l : List KV} (P : PairsOk S ps l) {s : SharedT} (w : Wf s) (h11 : Nat.ble 11 s.n = true) (ha : Apart [] l) (hs : l.length ≤ 4096) (hne : l ≠ []) :
    ∃ n d, (loopD [] l ⟨none, [], 0, s, 0⟩).n = n ∧ (loopD [] l ⟨none, [], 0, s, 0⟩).main = some d ∧ Ev S (CF S) (dictDisplay (ps.map fun p => (some p.1, p.2))) s (.ref d) (loopD [] l ⟨none, [], 0, s, 0⟩).s n := by
  have q : ∃ n d, (loopD [] l ⟨none, [], 0, s, 0⟩).n = (⟨none, [], 0, s, 0⟩ : DSt).n + n ∧ (loopD [] l ⟨none, [], 0, s, 0⟩).main = some d ∧ Ev S (CF S) (dictDisplay (ps.map fun p => (some p.1, p.2))) (⟨none, [], 0, s, 0⟩ : DSt).s (.ref d) (loopD [] l ⟨none, [], 0, s, 0⟩).s n := by
    unfold dictDisplay
    dsimp only
    refine ev_dispLoop (S := S) ?hf ?hg P [] [] ⟨none, [], 0, s, 0⟩ .nil (by simp) ⟨w, h11, rfl⟩ (by simpa using ha) (by simpa using hs) (.inr (by simpa using hne))
    case hf => intro k v main run; rfl
    case hg => intro main run; rfl
  obtain ⟨n, d, e1, e2, e3⟩ := q
  exact ⟨n, d, by rw [e1]; simp, e2, e3⟩
end
end Mine
end
section
set_option Elab.async false
set_option maxRecDepth 100000
set_option maxHeartbeats 0
set_option linter.unusedVariables false
namespace Mine
open PySem PySem.W PyProof.Rows
noncomputable abbrev PW : Program := PySem.Challenge.pw_wf0099_01
noncomputable def fnData (i : Nat) (cd pm : Value) : FuncData := match PW.main.body[i]? with
  | some (.FunctionDef name args body _ _ _ scope _ _ _) => { name := name, qualname := name, params := args, body := .stmts body, scope := scope, globals := 3, closure := [], defaults := .none, kwdefaults := .none, doc := .none, pyModule := pm, annotations := none, code := cd, closureTuple := .none, builtins := 0 }
  | _ => default
noncomputable def fnBare (i : Nat) : FuncData := match PW.main.body[i]? with
  | some (.FunctionDef name args body _ _ _ scope _ _ _) => { name := name, qualname := name, params := args, body := .stmts body, scope := scope, globals := 0, closure := [], defaults := .none, kwdefaults := .none, doc := .none, pyModule := .none, annotations := none, code := .none, closureTuple := .none, builtins := 0 }
  | _ => default
noncomputable def env1 : Env := { scope := PW.main.scope, locals := mainNs, globals := mainNs, cells := [], code := .ref 13, frame := some 14 }
noncomputable def o2 (P : Params) : Obj := ⟨.none, none, (.dict #[] 0), #[]⟩
noncomputable def o11 (P : Params) : Obj := ⟨(.type "tuple"), none, (.seq #[] 0), #[]⟩
noncomputable def o13 (P : Params) : Obj := ⟨(.type "code"), none, (.fields #[(.str (Str.ofString "<module>") 182), (.str (Str.ofString "<module>") 183), (.str (Str.ofString "/claim/cut.py") 184), (.int 1 0), (.int 0 0), (.int 0 0), (.int 0 0), (.int 0 0), (.ref 11), (.bool false), (.int 181 0), (.ref 12), .none, .none, .none, .none, (.int 185 0), (.int 1 0), (.str (Str.ofString "/claim/cut.py") 186)]), #[]⟩
noncomputable def o14 (P : Params) : Obj := ⟨(.type "frame"), none, .plain, #[(some (.ref 13)), (some (.ref 3)), (some (.ref 3)), none, (some (.str (Str.ofString "__main__") 164)), none, (some (.ref 0))]⟩
noncomputable def o15 (P : Params) : Obj := ⟨(.type "tuple"), none, (.seq #[] 0), #[]⟩
noncomputable def o16 (P : Params) : Obj := ⟨.none, none, (.fields #[]), #[]⟩
noncomputable def o17 (P : Params) : Obj := ⟨(.type "tuple"), none, (.seq #[(.str (Str.ofString "r") 192), (.str (Str.ofString "g") 193), (.str (Str.ofString "b") 194), (.str (Str.ofString "maxc") 195), (.str (Str.ofString "minc") 196), (.str (Str.ofString "sumc") 197), (.str (Str.ofString "rangec") 198), (.str (Str.ofString "l") 199), (.str (Str.ofString "s") 200), (.str (Str.ofString "rc") 201), (.str (Str.ofString "gc") 202), (.str (Str.ofString "bc") 203), (.str (Str.ofString "h") 204)] 0), #[]⟩
noncomputable def o18 (P : Params) : Obj := ⟨(.type "tuple"), none, (.seq #[] 0), #[]⟩
noncomputable def o19 (P : Params) : Obj := ⟨.none, none, (.func (fnBare 1)), #[]⟩
noncomputable def o20 (P : Params) : Obj := ⟨(.type "code"), none, (.fields #[(.str (Str.ofString "rgb_to_hls") 189), (.str (Str.ofString "rgb_to_hls") 190), (.str (Str.ofString "/claim/cut.py") 191), (.int 2 0), (.int 3 0), (.int 0 0), (.int 0 0), (.int 3 0), (.ref 15), (.bool true), (.int 181 0), (.ref 16), .none, (.ref 17), (.ref 18), (.ref 19), (.int 205 0), (.int 2 0), (.str (Str.ofString "/claim/cut.py") 206)]), #[]⟩
noncomputable def o21 (P : Params) : Obj := ⟨(.type "function"), none, (.func (fnData 1 (.ref 20) (.str (Str.ofString "cpy313.colorsys") 187))), #[]⟩
noncomputable def o22 (P : Params) : Obj := ⟨(.type "tuple"), none, (.seq #[] 0), #[]⟩
noncomputable def o23 (P : Params) : Obj := ⟨.none, none, (.fields #[]), #[]⟩
noncomputable def o24 (P : Params) : Obj := ⟨(.type "tuple"), none, (.seq #[(.str (Str.ofString "r") 211), (.str (Str.ofString "g") 212), (.str (Str.ofString "b") 213), (.str (Str.ofString "maxc") 214), (.str (Str.ofString "minc") 215), (.str (Str.ofString "rangec") 216), (.str (Str.ofString "v") 217), (.str (Str.ofString "s") 218), (.str (Str.ofString "rc") 219), (.str (Str.ofString "gc") 220), (.str (Str.ofString "bc") 221), (.str (Str.ofString "h") 222)] 0), #[]⟩
noncomputable def o25 (P : Params) : Obj := ⟨(.type "tuple"), none, (.seq #[] 0), #[]⟩
noncomputable def o26 (P : Params) : Obj := ⟨.none, none, (.func (fnBare 2)), #[]⟩
noncomputable def o27 (P : Params) : Obj := ⟨(.type "code"), none, (.fields #[(.str (Str.ofString "rgb_to_hsv") 208), (.str (Str.ofString "rgb_to_hsv") 209), (.str (Str.ofString "/claim/cut.py") 210), (.int 25 0), (.int 3 0), (.int 0 0), (.int 0 0), (.int 3 0), (.ref 22), (.bool true), (.int 181 0), (.ref 23), .none, (.ref 24), (.ref 25), (.ref 26), (.int 223 0), (.int 25 0), (.str (Str.ofString "/claim/cut.py") 224)]), #[]⟩
noncomputable def o28 (P : Params) : Obj := ⟨(.type "function"), none, (.func (fnData 2 (.ref 27) (.str (Str.ofString "cpy313.colorsys") 187))), #[]⟩
noncomputable def o29 (P : Params) : Obj := ⟨(.type "tuple"), none, (.seq #[] 0), #[]⟩
noncomputable def o30 (P : Params) : Obj := ⟨.none, none, (.fields #[]), #[]⟩
noncomputable def o31 (P : Params) : Obj := ⟨(.type "tuple"), none, (.seq #[(.str (Str.ofString "h") 229), (.str (Str.ofString "s") 230), (.str (Str.ofString "v") 231), (.str (Str.ofString "i") 232), (.str (Str.ofString "f") 233), (.str (Str.ofString "p") 234), (.str (Str.ofString "q") 235), (.str (Str.ofString "t") 236)] 0), #[]⟩
noncomputable def o32 (P : Params) : Obj := ⟨(.type "tuple"), none, (.seq #[] 0), #[]⟩
noncomputable def o33 (P : Params) : Obj := ⟨.none, none, (.func (fnBare 3)), #[]⟩
noncomputable def o34 (P : Params) : Obj := ⟨(.type "code"), none, (.fields #[(.str (Str.ofString "hsv_to_rgb") 226), (.str (Str.ofString "hsv_to_rgb") 227), (.str (Str.ofString "/claim/cut.py") 228), (.int 44 0), (.int 3 0), (.int 0 0), (.int 0 0), (.int 3 0), (.ref 29), (.bool true), (.int 181 0), (.ref 30), .none, (.ref 31), (.ref 32), (.ref 33), (.int 237 0), (.int 44 0), (.str (Str.ofString "/claim/cut.py") 238)]), #[]⟩
noncomputable def o35 (P : Params) : Obj := ⟨(.type "function"), none, (.func (fnData 3 (.ref 34) (.str (Str.ofString "cpy313.colorsys") 187))), #[]⟩
noncomputable def o36 (P : Params) : Obj := ⟨(.type "tuple"), none, (.seq #[] 0), #[]⟩
noncomputable def o37 (P : Params) : Obj := ⟨.none, none, (.fields #[]), #[]⟩
noncomputable def o38 (P : Params) : Obj := ⟨(.type "tuple"), none, (.seq #[(.str (Str.ofString "addr") 247), (.str (Str.ofString "pos") 248), (.str (Str.ofString "escape") 249), (.str (Str.ofString "ch") 250)] 0), #[]⟩
noncomputable def o39 (P : Params) : Obj := ⟨(.type "tuple"), none, (.seq #[] 0), #[]⟩
noncomputable def o40 (P : Params) : Obj := ⟨.none, none, (.func (fnBare 6)), #[]⟩
noncomputable def o41 (P : Params) : Obj := ⟨(.type "code"), none, (.fields #[(.str (Str.ofString "_iter_escaped_chars") 244), (.str (Str.ofString "_iter_escaped_chars") 245), (.str (Str.ofString "/claim/cut.py") 246), (.int 67 0), (.int 1 0), (.int 0 0), (.int 0 0), (.int 35 0), (.ref 36), (.bool true), (.int 181 0), (.ref 37), .none, (.ref 38), (.ref 39), (.ref 40), (.int 251 0), (.int 67 0), (.str (Str.ofString "/claim/cut.py") 252)]), #[]⟩
noncomputable def o42 (P : Params) : Obj := ⟨(.type "function"), none, (.func (fnData 6 (.ref 41) (.str (Str.ofString "cpy313.email.utils") 240))), #[]⟩
noncomputable def o43 (P : Params) : Obj := ⟨(.type "tuple"), none, (.seq #[] 0), #[]⟩
noncomputable def o44 (P : Params) : Obj := ⟨.none, none, (.fields #[]), #[]⟩
noncomputable def o45 (P : Params) : Obj := ⟨(.type "tuple"), none, (.seq #[(.str (Str.ofString "addr") 257), (.str (Str.ofString "start") 258), (.str (Str.ofString "open_pos") 259), (.str (Str.ofString "result") 260), (.str (Str.ofString "pos") 261), (.str (Str.ofString "ch") 262)] 0), #[]⟩
noncomputable def o46 (P : Params) : Obj := ⟨(.type "tuple"), none, (.seq #[] 0), #[]⟩
noncomputable def o47 (P : Params) : Obj := ⟨.none, none, (.func (fnBare 7)), #[]⟩
noncomputable def o48 (P : Params) : Obj := ⟨(.type "code"), none, (.fields #[(.str (Str.ofString "_strip_quoted_realnames") 254), (.str (Str.ofString "_strip_quoted_realnames") 255), (.str (Str.ofString "/claim/cut.py") 256), (.int 80 0), (.int 1 0), (.int 0 0), (.int 0 0), (.int 3 0), (.ref 43), (.bool true), (.int 181 0), (.ref 44), .none, (.ref 45), (.ref 46), (.ref 47), (.int 263 0), (.int 80 0), (.str (Str.ofString "/claim/cut.py") 264)]), #[]⟩
noncomputable def o49 (P : Params) : Obj := ⟨(.type "function"), none, (.func (fnData 7 (.ref 48) (.str (Str.ofString "cpy313.email.utils") 240))), #[]⟩
noncomputable def o50 (P : Params) : Obj := ⟨(.type "tuple"), none, (.seq #[] 0), #[]⟩
noncomputable def o51 (P : Params) : Obj := ⟨.none, none, (.fields #[]), #[]⟩
noncomputable def o52 (P : Params) : Obj := ⟨(.type "tuple"), none, (.seq #[(.str (Str.ofString "s") 269), (.str (Str.ofString "parts") 270)] 0), #[]⟩
noncomputable def o53 (P : Params) : Obj := ⟨(.type "tuple"), none, (.seq #[] 0), #[]⟩
noncomputable def o54 (P : Params) : Obj := ⟨.none, none, (.func (fnBare 8)), #[]⟩
noncomputable def o55 (P : Params) : Obj := ⟨(.type "code"), none, (.fields #[(.str (Str.ofString "decode_rfc2231") 266), (.str (Str.ofString "decode_rfc2231") 267), (.str (Str.ofString "/claim/cut.py") 268), (.int 98 0), (.int 1 0), (.int 0 0), (.int 0 0), (.int 3 0), (.ref 50), (.bool true), (.int 181 0), (.ref 51), .none, (.ref 52), (.ref 53), (.ref 54), (.int 271 0), (.int 98 0), (.str (Str.ofString "/claim/cut.py") 272)]), #[]⟩
noncomputable def o56 (P : Params) : Obj := ⟨(.type "function"), none, (.func (fnData 8 (.ref 55) (.str (Str.ofString "cpy313.email.utils") 240))), #[]⟩
noncomputable def o3x9 (P : Params) : Obj := ⟨(.type "dict"), none, (.dict #[⟨PyData.keyHash P (Str.ofString "__name__"), (.str (Str.ofString "__name__") 165), (.str (Str.ofString "cpy313.stringprep") 274)⟩,
    ⟨PyData.keyHash P (Str.ofString "__doc__"), (.str (Str.ofString "__doc__") 166), .none⟩,
    ⟨PyData.keyHash P (Str.ofString "__package__"), (.str (Str.ofString "__package__") 167), .none⟩,
    ⟨PyData.keyHash P (Str.ofString "__loader__"), (.str (Str.ofString "__loader__") 168), (.builtin "__main__.__loader__#opaque")⟩,
    ⟨PyData.keyHash P (Str.ofString "__spec__"), (.str (Str.ofString "__spec__") 169), .none⟩,
    ⟨PyData.keyHash P (Str.ofString "__annotations__"), (.str (Str.ofString "__annotations__") 170), (.ref 6)⟩,
    ⟨PyData.keyHash P (Str.ofString "__builtins__"), (.str (Str.ofString "__builtins__") 171), (.ref 4)⟩,
    ⟨PyData.keyHash P (Str.ofString "__file__"), (.str (Str.ofString "__file__") 173), (.str (Str.ofString "/claim/cut.py") 172)⟩,
    ⟨PyData.keyHash P (Str.ofString "__cached__"), (.str (Str.ofString "__cached__") 174), .none⟩,
    ⟨PyData.keyHash P (Str.ofString "rgb_to_hls"), (.str (Str.ofString "rgb_to_hls") 207), (.ref 21)⟩,
    ⟨PyData.keyHash P (Str.ofString "rgb_to_hsv"), (.str (Str.ofString "rgb_to_hsv") 225), (.ref 28)⟩,
    ⟨PyData.keyHash P (Str.ofString "hsv_to_rgb"), (.str (Str.ofString "hsv_to_rgb") 239), (.ref 35)⟩,
    ⟨PyData.keyHash P (Str.ofString "TICK"), (.str (Str.ofString "TICK") 243), (.str (Str.ofString "'") 242)⟩,
    ⟨PyData.keyHash P (Str.ofString "_iter_escaped_chars"), (.str (Str.ofString "_iter_escaped_chars") 253), (.ref 42)⟩,
    ⟨PyData.keyHash P (Str.ofString "_strip_quoted_realnames"), (.str (Str.ofString "_strip_quoted_realnames") 265), (.ref 49)⟩,
    ⟨PyData.keyHash P (Str.ofString "decode_rfc2231"), (.str (Str.ofString "decode_rfc2231") 273), (.ref 56)⟩] 16), #[]⟩
noncomputable def o12x9 (P : Params) : Obj := ⟨.none, none, (.fields #[(.int 2 0), (.int 0 0), (.ref 20), (.int 25 0), (.int 0 0), (.ref 27), (.int 44 0), (.int 0 0), (.ref 34), (.int 67 0), (.int 0 0), (.ref 41), (.int 80 0), (.int 0 0), (.ref 48), (.int 98 0), (.int 0 0), (.ref 55)]), #[]⟩
noncomputable def o12x0 (P : Params) : Obj := ⟨.none, none, (.fields #[]), #[]⟩
noncomputable def o3x10 (P : Params) : Obj := ⟨(.type "dict"), none, (.dict #[⟨PyData.keyHash P (Str.ofString "__name__"), (.str (Str.ofString "__name__") 165), (.str (Str.ofString "cpy313.stringprep") 274)⟩,
    ⟨PyData.keyHash P (Str.ofString "__doc__"), (.str (Str.ofString "__doc__") 166), .none⟩,
    ⟨PyData.keyHash P (Str.ofString "__package__"), (.str (Str.ofString "__package__") 167), .none⟩,
    ⟨PyData.keyHash P (Str.ofString "__loader__"), (.str (Str.ofString "__loader__") 168), (.builtin "__main__.__loader__#opaque")⟩,
    ⟨PyData.keyHash P (Str.ofString "__spec__"), (.str (Str.ofString "__spec__") 169), .none⟩,
    ⟨PyData.keyHash P (Str.ofString "__annotations__"), (.str (Str.ofString "__annotations__") 170), (.ref 6)⟩,
    ⟨PyData.keyHash P (Str.ofString "__builtins__"), (.str (Str.ofString "__builtins__") 171), (.ref 4)⟩,
    ⟨PyData.keyHash P (Str.ofString "__file__"), (.str (Str.ofString "__file__") 173), (.str (Str.ofString "/claim/cut.py") 172)⟩,
    ⟨PyData.keyHash P (Str.ofString "__cached__"), (.str (Str.ofString "__cached__") 174), .none⟩,
    ⟨PyData.keyHash P (Str.ofString "rgb_to_hls"), (.str (Str.ofString "rgb_to_hls") 207), (.ref 21)⟩,
    ⟨PyData.keyHash P (Str.ofString "rgb_to_hsv"), (.str (Str.ofString "rgb_to_hsv") 225), (.ref 28)⟩,
    ⟨PyData.keyHash P (Str.ofString "hsv_to_rgb"), (.str (Str.ofString "hsv_to_rgb") 239), (.ref 35)⟩,
    ⟨PyData.keyHash P (Str.ofString "TICK"), (.str (Str.ofString "TICK") 243), (.str (Str.ofString "'") 242)⟩,
    ⟨PyData.keyHash P (Str.ofString "_iter_escaped_chars"), (.str (Str.ofString "_iter_escaped_chars") 253), (.ref 42)⟩,
    ⟨PyData.keyHash P (Str.ofString "_strip_quoted_realnames"), (.str (Str.ofString "_strip_quoted_realnames") 265), (.ref 49)⟩,
    ⟨PyData.keyHash P (Str.ofString "decode_rfc2231"), (.str (Str.ofString "decode_rfc2231") 273), (.ref 56)⟩,
    ⟨PyData.keyHash P (Str.ofString "b1_set"), (.str (Str.ofString "b1_set") 335), (.ref 64)⟩] 17), #[]⟩
noncomputable def o3x11 (P : Params) : Obj := ⟨(.type "dict"), none, (.dict #[⟨PyData.keyHash P (Str.ofString "__name__"), (.str (Str.ofString "__name__") 165), (.str (Str.ofString "cpy313.stringprep") 274)⟩,
    ⟨PyData.keyHash P (Str.ofString "__doc__"), (.str (Str.ofString "__doc__") 166), .none⟩,
    ⟨PyData.keyHash P (Str.ofString "__package__"), (.str (Str.ofString "__package__") 167), .none⟩,
    ⟨PyData.keyHash P (Str.ofString "__loader__"), (.str (Str.ofString "__loader__") 168), (.builtin "__main__.__loader__#opaque")⟩,
    ⟨PyData.keyHash P (Str.ofString "__spec__"), (.str (Str.ofString "__spec__") 169), .none⟩,
    ⟨PyData.keyHash P (Str.ofString "__annotations__"), (.str (Str.ofString "__annotations__") 170), (.ref 6)⟩,
    ⟨PyData.keyHash P (Str.ofString "__builtins__"), (.str (Str.ofString "__builtins__") 171), (.ref 4)⟩,
    ⟨PyData.keyHash P (Str.ofString "__file__"), (.str (Str.ofString "__file__") 173), (.str (Str.ofString "/claim/cut.py") 172)⟩,
    ⟨PyData.keyHash P (Str.ofString "__cached__"), (.str (Str.ofString "__cached__") 174), .none⟩,
    ⟨PyData.keyHash P (Str.ofString "rgb_to_hls"), (.str (Str.ofString "rgb_to_hls") 207), (.ref 21)⟩,
    ⟨PyData.keyHash P (Str.ofString "rgb_to_hsv"), (.str (Str.ofString "rgb_to_hsv") 225), (.ref 28)⟩,
    ⟨PyData.keyHash P (Str.ofString "hsv_to_rgb"), (.str (Str.ofString "hsv_to_rgb") 239), (.ref 35)⟩,
    ⟨PyData.keyHash P (Str.ofString "TICK"), (.str (Str.ofString "TICK") 243), (.str (Str.ofString "'") 242)⟩,
    ⟨PyData.keyHash P (Str.ofString "_iter_escaped_chars"), (.str (Str.ofString "_iter_escaped_chars") 253), (.ref 42)⟩,
    ⟨PyData.keyHash P (Str.ofString "_strip_quoted_realnames"), (.str (Str.ofString "_strip_quoted_realnames") 265), (.ref 49)⟩,
    ⟨PyData.keyHash P (Str.ofString "decode_rfc2231"), (.str (Str.ofString "decode_rfc2231") 273), (.ref 56)⟩,
    ⟨PyData.keyHash P (Str.ofString "b1_set"), (.str (Str.ofString "b1_set") 335), (.ref 64)⟩,
    ⟨PyData.keyHash P (Str.ofString "in_table_b1"), (.str (Str.ofString "in_table_b1") 342), (.ref 74)⟩] 18), #[]⟩
noncomputable def o12x11 (P : Params) : Obj := ⟨.none, none, (.fields #[(.int 2 0), (.int 0 0), (.ref 20), (.int 25 0), (.int 0 0), (.ref 27), (.int 44 0), (.int 0 0), (.ref 34), (.int 67 0), (.int 0 0), (.ref 41), (.int 80 0), (.int 0 0), (.ref 48), (.int 98 0), (.int 0 0), (.ref 55), (.int 105 0), (.int 0 0), (.ref 73)]), #[]⟩
noncomputable def o57 (P : Params) : Obj := ⟨(.type "list"), none, (.seq #[(.int 173 276), (.int 847 277), (.int 6150 278), (.int 6155 279), (.int 6156 280), (.int 6157 281), (.int 8203 282), (.int 8204 283), (.int 8205 284), (.int 8288 285), (.int 65279 286)] 0), #[]⟩
noncomputable def o58 (P : Params) : Obj := ⟨(.type "range"), none, (.fields #[(.int 65024 287), (.int 65040 288), (.int 1 289)]), #[]⟩
noncomputable def o59 (P : Params) : Obj := ⟨(.type "list"), none, (.seq #[(.int 65024 292), (.int 65025 293), (.int 65026 294), (.int 65027 295), (.int 65028 296), (.int 65029 297), (.int 65030 298), (.int 65031 299), (.int 65032 300), (.int 65033 301), (.int 65034 302), (.int 65035 303), (.int 65036 304), (.int 65037 305), (.int 65038 306), (.int 65039 307)] 18), #[]⟩
noncomputable def o60 (P : Params) : Obj := ⟨(.type "range_iterator"), none, (.fields #[(.int 65040 0), (.int 0 0), (.int 1 0)]), #[]⟩
noncomputable def o61 (P : Params) : Obj := ⟨(.type "tuple"), none, (.seq #[] 0), #[]⟩
noncomputable def o62 (P : Params) : Obj := ⟨(.type "StopIteration"), none, (.fields #[(.ref 61), .none, .none, .none, (.bool false), .none]), #[]⟩
noncomputable def o63 (P : Params) : Obj := ⟨(.type "list"), none, (.seq #[(.int 173 276), (.int 847 277), (.int 6150 278), (.int 6155 279), (.int 6156 280), (.int 6157 281), (.int 8203 282), (.int 8204 283), (.int 8205 284), (.int 8288 285), (.int 65279 286), (.int 65024 292), (.int 65025 293), (.int 65026 294), (.int 65027 295), (.int 65028 296), (.int 65029 297), (.int 65030 298), (.int 65031 299), (.int 65032 300), (.int 65033 301), (.int 65034 302), (.int 65035 303), (.int 65036 304), (.int 65037 305), (.int 65038 306), (.int 65039 307)] 0), #[]⟩
noncomputable def o64 (P : Params) : Obj := ⟨(.type "set"), none, (.set #[(65024, (.int 65024 292)), (65025, (.int 65025 293)), (65026, (.int 65026 294)), (65027, (.int 65027 295)), (65028, (.int 65028 296)), (65029, (.int 65029 297)), (6150, (.int 6150 278)), (65030, (.int 65030 298)), (65031, (.int 65031 299)), (65032, (.int 65032 300)), (65033, (.int 65033 301)), (6155, (.int 6155 279)), (6156, (.int 6156 280)), (6157, (.int 6157 281)), (8203, (.int 8203 282)), (8204, (.int 8204 283)), (8205, (.int 8205 284)), (65034, (.int 65034 302)), (65035, (.int 65035 303)), (65036, (.int 65036 304)), (65037, (.int 65037 305)), (65038, (.int 65038 306)), (65039, (.int 65039 307)), (173, (.int 173 276)), (847, (.int 847 277)), (8288, (.int 8288 285)), (65279, (.int 65279 286))] 29 ⟨127, #[0, 1, 2, 3, 4, 5, 6, 7, 8, 9, 10, 11, 12, 13, 14, 15, 16, 17, 18, 19, 20, 21, 22, 45, 79, 96, 127], #[], 0, !P.followText "set-order", 2, true⟩), #[]⟩
noncomputable def o65 (P : Params) : Obj := ⟨(.type "list_iterator"), none, (.fields #[.none, (.int 27 0)]), #[]⟩
noncomputable def o66 (P : Params) : Obj := ⟨(.type "tuple"), none, (.seq #[] 0), #[]⟩
noncomputable def o67 (P : Params) : Obj := ⟨(.type "StopIteration"), none, (.fields #[(.ref 66), .none, .none, .none, (.bool false), .none]), #[]⟩
noncomputable def o68 (P : Params) : Obj := ⟨(.type "tuple"), none, (.seq #[] 0), #[]⟩
noncomputable def o69 (P : Params) : Obj := ⟨.none, none, (.fields #[]), #[]⟩
noncomputable def o70 (P : Params) : Obj := ⟨(.type "tuple"), none, (.seq #[(.str (Str.ofString "code") 339)] 0), #[]⟩
noncomputable def o71 (P : Params) : Obj := ⟨(.type "tuple"), none, (.seq #[] 0), #[]⟩
noncomputable def o72 (P : Params) : Obj := ⟨.none, none, (.func (fnBare 11)), #[]⟩
noncomputable def o73 (P : Params) : Obj := ⟨(.type "code"), none, (.fields #[(.str (Str.ofString "in_table_b1") 336), (.str (Str.ofString "in_table_b1") 337), (.str (Str.ofString "/claim/cut.py") 338), (.int 105 0), (.int 1 0), (.int 0 0), (.int 0 0), (.int 3 0), (.ref 68), (.bool true), (.int 181 0), (.ref 69), .none, (.ref 70), (.ref 71), (.ref 72), (.int 340 0), (.int 105 0), (.str (Str.ofString "/claim/cut.py") 341)]), #[]⟩
noncomputable def o74 (P : Params) : Obj := ⟨(.type "function"), none, (.func (fnData 11 (.ref 73) (.str (Str.ofString "cpy313.stringprep") 274))), #[]⟩
noncomputable def o3 (P : Params) : Obj := ⟨(.type "dict"), none, (.dict #[⟨PyData.keyHash P (Str.ofString "__name__"), (.str (Str.ofString "__name__") 165), (.str (Str.ofString "law_wf0099_01") 2515)⟩,
    ⟨PyData.keyHash P (Str.ofString "__doc__"), (.str (Str.ofString "__doc__") 166), .none⟩,
    ⟨PyData.keyHash P (Str.ofString "__package__"), (.str (Str.ofString "__package__") 167), .none⟩,
    ⟨PyData.keyHash P (Str.ofString "__loader__"), (.str (Str.ofString "__loader__") 168), (.builtin "__main__.__loader__#opaque")⟩,
    ⟨PyData.keyHash P (Str.ofString "__spec__"), (.str (Str.ofString "__spec__") 169), .none⟩,
    ⟨PyData.keyHash P (Str.ofString "__annotations__"), (.str (Str.ofString "__annotations__") 170), (.ref 6)⟩,
    ⟨PyData.keyHash P (Str.ofString "__builtins__"), (.str (Str.ofString "__builtins__") 171), (.ref 4)⟩,
    ⟨PyData.keyHash P (Str.ofString "__file__"), (.str (Str.ofString "__file__") 173), (.str (Str.ofString "/claim/cut.py") 172)⟩,
    ⟨PyData.keyHash P (Str.ofString "__cached__"), (.str (Str.ofString "__cached__") 174), .none⟩,
    ⟨PyData.keyHash P (Str.ofString "rgb_to_hls"), (.str (Str.ofString "rgb_to_hls") 207), (.ref 21)⟩,
    ⟨PyData.keyHash P (Str.ofString "rgb_to_hsv"), (.str (Str.ofString "rgb_to_hsv") 225), (.ref 28)⟩,
    ⟨PyData.keyHash P (Str.ofString "hsv_to_rgb"), (.str (Str.ofString "hsv_to_rgb") 239), (.ref 35)⟩,
    ⟨PyData.keyHash P (Str.ofString "TICK"), (.str (Str.ofString "TICK") 243), (.str (Str.ofString "'") 242)⟩,
    ⟨PyData.keyHash P (Str.ofString "_iter_escaped_chars"), (.str (Str.ofString "_iter_escaped_chars") 253), (.ref 42)⟩,
    ⟨PyData.keyHash P (Str.ofString "_strip_quoted_realnames"), (.str (Str.ofString "_strip_quoted_realnames") 265), (.ref 49)⟩,
    ⟨PyData.keyHash P (Str.ofString "decode_rfc2231"), (.str (Str.ofString "decode_rfc2231") 273), (.ref 56)⟩,
    ⟨PyData.keyHash P (Str.ofString "b1_set"), (.str (Str.ofString "b1_set") 335), (.ref 64)⟩,
    ⟨PyData.keyHash P (Str.ofString "in_table_b1"), (.str (Str.ofString "in_table_b1") 342), (.ref 74)⟩,
    ⟨PyData.keyHash P (Str.ofString "b3_exceptions"), (.str (Str.ofString "b3_exceptions") 2293), (.ref 75)⟩,
    ⟨PyData.keyHash P (Str.ofString "map_table_b3"), (.str (Str.ofString "map_table_b3") 2301), (.ref 120)⟩,
    ⟨PyData.keyHash P (Str.ofString "ENDMARKER"), (.str (Str.ofString "ENDMARKER") 2305), (.int 0 2304)⟩,
    ⟨PyData.keyHash P (Str.ofString "LPAR"), (.str (Str.ofString "LPAR") 2307), (.int 7 2306)⟩,
    ⟨PyData.keyHash P (Str.ofString "RPAR"), (.str (Str.ofString "RPAR") 2309), (.int 8 2308)⟩,
    ⟨PyData.keyHash P (Str.ofString "LSQB"), (.str (Str.ofString "LSQB") 2311), (.int 9 2310)⟩,
    ⟨PyData.keyHash P (Str.ofString "RSQB"), (.str (Str.ofString "RSQB") 2313), (.int 10 2312)⟩,
    ⟨PyData.keyHash P (Str.ofString "COLON"), (.str (Str.ofString "COLON") 2315), (.int 11 2314)⟩,
    ⟨PyData.keyHash P (Str.ofString "COMMA"), (.str (Str.ofString "COMMA") 2317), (.int 12 2316)⟩,
    ⟨PyData.keyHash P (Str.ofString "SEMI"), (.str (Str.ofString "SEMI") 2319), (.int 13 2318)⟩,
    ⟨PyData.keyHash P (Str.ofString "PLUS"), (.str (Str.ofString "PLUS") 2321), (.int 14 2320)⟩,
    ⟨PyData.keyHash P (Str.ofString "MINUS"), (.str (Str.ofString "MINUS") 2323), (.int 15 2322)⟩,
    ⟨PyData.keyHash P (Str.ofString "STAR"), (.str (Str.ofString "STAR") 2325), (.int 16 2324)⟩,
    ⟨PyData.keyHash P (Str.ofString "SLASH"), (.str (Str.ofString "SLASH") 2327), (.int 17 2326)⟩,
    ⟨PyData.keyHash P (Str.ofString "VBAR"), (.str (Str.ofString "VBAR") 2329), (.int 18 2328)⟩,
    ⟨PyData.keyHash P (Str.ofString "AMPER"), (.str (Str.ofString "AMPER") 2331), (.int 19 2330)⟩,
    ⟨PyData.keyHash P (Str.ofString "LESS"), (.str (Str.ofString "LESS") 2333), (.int 20 2332)⟩,
    ⟨PyData.keyHash P (Str.ofString "GREATER"), (.str (Str.ofString "GREATER") 2335), (.int 21 2334)⟩,
    ⟨PyData.keyHash P (Str.ofString "EQUAL"), (.str (Str.ofString "EQUAL") 2337), (.int 22 2336)⟩,
    ⟨PyData.keyHash P (Str.ofString "DOT"), (.str (Str.ofString "DOT") 2339), (.int 23 2338)⟩,
    ⟨PyData.keyHash P (Str.ofString "PERCENT"), (.str (Str.ofString "PERCENT") 2341), (.int 24 2340)⟩,
    ⟨PyData.keyHash P (Str.ofString "LBRACE"), (.str (Str.ofString "LBRACE") 2343), (.int 25 2342)⟩,
    ⟨PyData.keyHash P (Str.ofString "RBRACE"), (.str (Str.ofString "RBRACE") 2345), (.int 26 2344)⟩,
    ⟨PyData.keyHash P (Str.ofString "EQEQUAL"), (.str (Str.ofString "EQEQUAL") 2347), (.int 27 2346)⟩,
    ⟨PyData.keyHash P (Str.ofString "NOTEQUAL"), (.str (Str.ofString "NOTEQUAL") 2349), (.int 28 2348)⟩,
    ⟨PyData.keyHash P (Str.ofString "LESSEQUAL"), (.str (Str.ofString "LESSEQUAL") 2351), (.int 29 2350)⟩,
    ⟨PyData.keyHash P (Str.ofString "GREATEREQUAL"), (.str (Str.ofString "GREATEREQUAL") 2353), (.int 30 2352)⟩,
    ⟨PyData.keyHash P (Str.ofString "TILDE"), (.str (Str.ofString "TILDE") 2355), (.int 31 2354)⟩,
    ⟨PyData.keyHash P (Str.ofString "CIRCUMFLEX"), (.str (Str.ofString "CIRCUMFLEX") 2357), (.int 32 2356)⟩,
    ⟨PyData.keyHash P (Str.ofString "LEFTSHIFT"), (.str (Str.ofString "LEFTSHIFT") 2359), (.int 33 2358)⟩,
    ⟨PyData.keyHash P (Str.ofString "RIGHTSHIFT"), (.str (Str.ofString "RIGHTSHIFT") 2361), (.int 34 2360)⟩,
    ⟨PyData.keyHash P (Str.ofString "DOUBLESTAR"), (.str (Str.ofString "DOUBLESTAR") 2363), (.int 35 2362)⟩,
    ⟨PyData.keyHash P (Str.ofString "PLUSEQUAL"), (.str (Str.ofString "PLUSEQUAL") 2365), (.int 36 2364)⟩,
    ⟨PyData.keyHash P (Str.ofString "MINEQUAL"), (.str (Str.ofString "MINEQUAL") 2367), (.int 37 2366)⟩,
    ⟨PyData.keyHash P (Str.ofString "STAREQUAL"), (.str (Str.ofString "STAREQUAL") 2369), (.int 38 2368)⟩,
    ⟨PyData.keyHash P (Str.ofString "SLASHEQUAL"), (.str (Str.ofString "SLASHEQUAL") 2371), (.int 39 2370)⟩,
    ⟨PyData.keyHash P (Str.ofString "PERCENTEQUAL"), (.str (Str.ofString "PERCENTEQUAL") 2373), (.int 40 2372)⟩,
    ⟨PyData.keyHash P (Str.ofString "AMPEREQUAL"), (.str (Str.ofString "AMPEREQUAL") 2375), (.int 41 2374)⟩,
    ⟨PyData.keyHash P (Str.ofString "VBAREQUAL"), (.str (Str.ofString "VBAREQUAL") 2377), (.int 42 2376)⟩,
    ⟨PyData.keyHash P (Str.ofString "CIRCUMFLEXEQUAL"), (.str (Str.ofString "CIRCUMFLEXEQUAL") 2379), (.int 43 2378)⟩,
    ⟨PyData.keyHash P (Str.ofString "LEFTSHIFTEQUAL"), (.str (Str.ofString "LEFTSHIFTEQUAL") 2381), (.int 44 2380)⟩,
    ⟨PyData.keyHash P (Str.ofString "RIGHTSHIFTEQUAL"), (.str (Str.ofString "RIGHTSHIFTEQUAL") 2383), (.int 45 2382)⟩,
    ⟨PyData.keyHash P (Str.ofString "DOUBLESTAREQUAL"), (.str (Str.ofString "DOUBLESTAREQUAL") 2385), (.int 46 2384)⟩,
    ⟨PyData.keyHash P (Str.ofString "DOUBLESLASH"), (.str (Str.ofString "DOUBLESLASH") 2387), (.int 47 2386)⟩,
    ⟨PyData.keyHash P (Str.ofString "DOUBLESLASHEQUAL"), (.str (Str.ofString "DOUBLESLASHEQUAL") 2389), (.int 48 2388)⟩,
    ⟨PyData.keyHash P (Str.ofString "AT"), (.str (Str.ofString "AT") 2391), (.int 49 2390)⟩,
    ⟨PyData.keyHash P (Str.ofString "ATEQUAL"), (.str (Str.ofString "ATEQUAL") 2393), (.int 50 2392)⟩,
    ⟨PyData.keyHash P (Str.ofString "RARROW"), (.str (Str.ofString "RARROW") 2395), (.int 51 2394)⟩,
    ⟨PyData.keyHash P (Str.ofString "ELLIPSIS"), (.str (Str.ofString "ELLIPSIS") 2397), (.int 52 2396)⟩,
    ⟨PyData.keyHash P (Str.ofString "COLONEQUAL"), (.str (Str.ofString "COLONEQUAL") 2399), (.int 53 2398)⟩,
    ⟨PyData.keyHash P (Str.ofString "EXCLAMATION"), (.str (Str.ofString "EXCLAMATION") 2401), (.int 54 2400)⟩,
    ⟨PyData.keyHash P (Str.ofString "NT_OFFSET"), (.str (Str.ofString "NT_OFFSET") 2403), (.int 256 2402)⟩,
    ⟨PyData.keyHash P (Str.ofString "EXACT_TOKEN_TYPES"), (.str (Str.ofString "EXACT_TOKEN_TYPES") 2500), (.ref 121)⟩,
    ⟨PyData.keyHash P (Str.ofString "ISTERMINAL"), (.str (Str.ofString "ISTERMINAL") 2507), (.ref 130)⟩,
    ⟨PyData.keyHash P (Str.ofString "ISEOF"), (.str (Str.ofString "ISEOF") 2514), (.ref 137)⟩,
    ⟨PyData.keyHash P (Str.ofString "_law_number"), (.str (Str.ofString "_law_number") 2522), (.ref 142)⟩,
    ⟨PyData.keyHash P (Str.ofString "_law_symbols"), (.str (Str.ofString "_law_symbols") 2533), (.ref 149)⟩,
    ⟨PyData.keyHash P (Str.ofString "_law_paint"), (.str (Str.ofString "_law_paint") 2540), (.ref 156)⟩,
    ⟨PyData.keyHash P (Str.ofString "_law_mirror"), (.str (Str.ofString "_law_mirror") 2550), (.ref 163)⟩,
    ⟨PyData.keyHash P (Str.ofString "_law_turned"), (.str (Str.ofString "_law_turned") 2558), (.ref 170)⟩,
    ⟨PyData.keyHash P (Str.ofString "_law_done"), (.str (Str.ofString "_law_done") 2564), (.ref 175)⟩,
    ⟨PyData.keyHash P (Str.ofString "_law_shine"), (.str (Str.ofString "_law_shine") 2574), (.ref 182)⟩,
    ⟨PyData.keyHash P (Str.ofString "law"), (.str (Str.ofString "law") 2580), (.ref 187)⟩] 81), #[]⟩
noncomputable def o12 (P : Params) : Obj := ⟨.none, none, (.fields #[(.int 2 0), (.int 0 0), (.ref 20), (.int 25 0), (.int 0 0), (.ref 27), (.int 44 0), (.int 0 0), (.ref 34), (.int 67 0), (.int 0 0), (.ref 41), (.int 80 0), (.int 0 0), (.ref 48), (.int 98 0), (.int 0 0), (.ref 55), (.int 105 0), (.int 0 0), (.ref 73), (.int 108 0), (.int 0 0), (.ref 119), (.int 165 0), (.int 0 0), (.ref 129), (.int 167 0), (.int 0 0), (.ref 136), (.int 170 0), (.int 0 0), (.ref 141), (.int 190 0), (.int 0 0), (.ref 148), (.int 205 0), (.int 0 0), (.ref 155), (.int 207 0), (.int 0 0), (.ref 162), (.int 211 0), (.int 0 0), (.ref 169), (.int 213 0), (.int 0 0), (.ref 174), (.int 231 0), (.int 0 0), (.ref 181), (.int 237 0), (.int 0 0), (.ref 186)]), #[]⟩
noncomputable def o114 (P : Params) : Obj := ⟨(.type "tuple"), none, (.seq #[] 0), #[]⟩
noncomputable def o115 (P : Params) : Obj := ⟨.none, none, (.fields #[]), #[]⟩
noncomputable def o116 (P : Params) : Obj := ⟨(.type "tuple"), none, (.seq #[(.str (Str.ofString "code") 2297), (.str (Str.ofString "r") 2298)] 0), #[]⟩
noncomputable def o117 (P : Params) : Obj := ⟨(.type "tuple"), none, (.seq #[] 0), #[]⟩
noncomputable def o118 (P : Params) : Obj := ⟨.none, none, (.func (fnBare 13)), #[]⟩
noncomputable def o119 (P : Params) : Obj := ⟨(.type "code"), none, (.fields #[(.str (Str.ofString "map_table_b3") 2294), (.str (Str.ofString "map_table_b3") 2295), (.str (Str.ofString "/claim/cut.py") 2296), (.int 108 0), (.int 1 0), (.int 0 0), (.int 0 0), (.int 3 0), (.ref 114), (.bool true), (.int 181 0), (.ref 115), .none, (.ref 116), (.ref 117), (.ref 118), (.int 2299 0), (.int 108 0), (.str (Str.ofString "/claim/cut.py") 2300)]), #[]⟩
noncomputable def o120 (P : Params) : Obj := ⟨(.type "function"), none, (.func (fnData 13 (.ref 119) (.str (Str.ofString "cpy313.stringprep") 274))), #[]⟩
noncomputable def o121 (P : Params) : Obj := ⟨(.type "dict"), none, (.dict #[⟨PyData.keyHash P (Str.ofString "!"), (.str (Str.ofString "!") 2404), (.int 54 2400)⟩,
    ⟨PyData.keyHash P (Str.ofString "!="), (.str (Str.ofString "!=") 2406), (.int 28 2348)⟩,
    ⟨PyData.keyHash P (Str.ofString "%"), (.str (Str.ofString "%") 2408), (.int 24 2340)⟩,
    ⟨PyData.keyHash P (Str.ofString "%="), (.str (Str.ofString "%=") 2410), (.int 40 2372)⟩,
    ⟨PyData.keyHash P (Str.ofString "&"), (.str (Str.ofString "&") 2412), (.int 19 2330)⟩,
    ⟨PyData.keyHash P (Str.ofString "&="), (.str (Str.ofString "&=") 2414), (.int 41 2374)⟩,
    ⟨PyData.keyHash P (Str.ofString "("), (.str (Str.ofString "(") 2416), (.int 7 2306)⟩,
    ⟨PyData.keyHash P (Str.ofString ")"), (.str (Str.ofString ")") 2418), (.int 8 2308)⟩,
    ⟨PyData.keyHash P (Str.ofString "*"), (.str (Str.ofString "*") 2420), (.int 16 2324)⟩,
    ⟨PyData.keyHash P (Str.ofString "**"), (.str (Str.ofString "**") 2422), (.int 35 2362)⟩,
    ⟨PyData.keyHash P (Str.ofString "**="), (.str (Str.ofString "**=") 2424), (.int 46 2384)⟩,
    ⟨PyData.keyHash P (Str.ofString "*="), (.str (Str.ofString "*=") 2426), (.int 38 2368)⟩,
    ⟨PyData.keyHash P (Str.ofString "+"), (.str (Str.ofString "+") 2428), (.int 14 2320)⟩,
    ⟨PyData.keyHash P (Str.ofString "+="), (.str (Str.ofString "+=") 2430), (.int 36 2364)⟩,
    ⟨PyData.keyHash P (Str.ofString ","), (.str (Str.ofString ",") 2432), (.int 12 2316)⟩,
    ⟨PyData.keyHash P (Str.ofString "-"), (.str (Str.ofString "-") 2434), (.int 15 2322)⟩,
    ⟨PyData.keyHash P (Str.ofString "-="), (.str (Str.ofString "-=") 2436), (.int 37 2366)⟩,
    ⟨PyData.keyHash P (Str.ofString "->"), (.str (Str.ofString "->") 2438), (.int 51 2394)⟩,
    ⟨PyData.keyHash P (Str.ofString "."), (.str (Str.ofString ".") 2440), (.int 23 2338)⟩,
    ⟨PyData.keyHash P (Str.ofString "..."), (.str (Str.ofString "...") 2442), (.int 52 2396)⟩,
    ⟨PyData.keyHash P (Str.ofString "/"), (.str (Str.ofString "/") 2444), (.int 17 2326)⟩,
    ⟨PyData.keyHash P (Str.ofString "//"), (.str (Str.ofString "//") 2446), (.int 47 2386)⟩,
    ⟨PyData.keyHash P (Str.ofString "//="), (.str (Str.ofString "//=") 2448), (.int 48 2388)⟩,
    ⟨PyData.keyHash P (Str.ofString "/="), (.str (Str.ofString "/=") 2450), (.int 39 2370)⟩,
    ⟨PyData.keyHash P (Str.ofString ":"), (.str (Str.ofString ":") 2452), (.int 11 2314)⟩,
    ⟨PyData.keyHash P (Str.ofString ":="), (.str (Str.ofString ":=") 2454), (.int 53 2398)⟩,
    ⟨PyData.keyHash P (Str.ofString ";"), (.str (Str.ofString ";") 2456), (.int 13 2318)⟩,
    ⟨PyData.keyHash P (Str.ofString "<"), (.str (Str.ofString "<") 2458), (.int 20 2332)⟩,
    ⟨PyData.keyHash P (Str.ofString "<<"), (.str (Str.ofString "<<") 2460), (.int 33 2358)⟩,
    ⟨PyData.keyHash P (Str.ofString "<<="), (.str (Str.ofString "<<=") 2462), (.int 44 2380)⟩,
    ⟨PyData.keyHash P (Str.ofString "<="), (.str (Str.ofString "<=") 2464), (.int 29 2350)⟩,
    ⟨PyData.keyHash P (Str.ofString "="), (.str (Str.ofString "=") 2466), (.int 22 2336)⟩,
    ⟨PyData.keyHash P (Str.ofString "=="), (.str (Str.ofString "==") 2468), (.int 27 2346)⟩,
    ⟨PyData.keyHash P (Str.ofString ">"), (.str (Str.ofString ">") 2470), (.int 21 2334)⟩,
    ⟨PyData.keyHash P (Str.ofString ">="), (.str (Str.ofString ">=") 2472), (.int 30 2352)⟩,
    ⟨PyData.keyHash P (Str.ofString ">>"), (.str (Str.ofString ">>") 2473), (.int 34 2360)⟩,
    ⟨PyData.keyHash P (Str.ofString ">>="), (.str (Str.ofString ">>=") 2474), (.int 45 2382)⟩,
    ⟨PyData.keyHash P (Str.ofString "@"), (.str (Str.ofString "@") 2475), (.int 49 2390)⟩,
    ⟨PyData.keyHash P (Str.ofString "@="), (.str (Str.ofString "@=") 2476), (.int 50 2392)⟩,
    ⟨PyData.keyHash P (Str.ofString "["), (.str (Str.ofString "[") 2477), (.int 9 2310)⟩,
    ⟨PyData.keyHash P (Str.ofString "]"), (.str (Str.ofString "]") 2478), (.int 10 2312)⟩,
    ⟨PyData.keyHash P (Str.ofString "^"), (.str (Str.ofString "^") 2479), (.int 32 2356)⟩,
    ⟨PyData.keyHash P (Str.ofString "^="), (.str (Str.ofString "^=") 2480), (.int 43 2378)⟩,
    ⟨PyData.keyHash P (Str.ofString "{"), (.str (Str.ofString "{") 2481), (.int 25 2342)⟩,
    ⟨PyData.keyHash P (Str.ofString "|"), (.str (Str.ofString "|") 2482), (.int 18 2328)⟩,
    ⟨PyData.keyHash P (Str.ofString "|="), (.str (Str.ofString "|=") 2483), (.int 42 2376)⟩,
    ⟨PyData.keyHash P (Str.ofString "}"), (.str (Str.ofString "}") 2484), (.int 26 2344)⟩,
    ⟨PyData.keyHash P (Str.ofString "~"), (.str (Str.ofString "~") 2485), (.int 31 2354)⟩] 48), #[]⟩
noncomputable def o122 (P : Params) : Obj := ⟨(.type "dict"), none, (.dict #[⟨PyData.keyHash P (Str.ofString "->"), (.str (Str.ofString "->") 2438), (.int 51 2394)⟩,
    ⟨PyData.keyHash P (Str.ofString "."), (.str (Str.ofString ".") 2440), (.int 23 2338)⟩,
    ⟨PyData.keyHash P (Str.ofString "..."), (.str (Str.ofString "...") 2442), (.int 52 2396)⟩,
    ⟨PyData.keyHash P (Str.ofString "/"), (.str (Str.ofString "/") 2444), (.int 17 2326)⟩,
    ⟨PyData.keyHash P (Str.ofString "//"), (.str (Str.ofString "//") 2446), (.int 47 2386)⟩,
    ⟨PyData.keyHash P (Str.ofString "//="), (.str (Str.ofString "//=") 2448), (.int 48 2388)⟩,
    ⟨PyData.keyHash P (Str.ofString "/="), (.str (Str.ofString "/=") 2450), (.int 39 2370)⟩,
    ⟨PyData.keyHash P (Str.ofString ":"), (.str (Str.ofString ":") 2452), (.int 11 2314)⟩,
    ⟨PyData.keyHash P (Str.ofString ":="), (.str (Str.ofString ":=") 2454), (.int 53 2398)⟩,
    ⟨PyData.keyHash P (Str.ofString ";"), (.str (Str.ofString ";") 2456), (.int 13 2318)⟩,
    ⟨PyData.keyHash P (Str.ofString "<"), (.str (Str.ofString "<") 2458), (.int 20 2332)⟩,
    ⟨PyData.keyHash P (Str.ofString "<<"), (.str (Str.ofString "<<") 2460), (.int 33 2358)⟩,
    ⟨PyData.keyHash P (Str.ofString "<<="), (.str (Str.ofString "<<=") 2462), (.int 44 2380)⟩,
    ⟨PyData.keyHash P (Str.ofString "<="), (.str (Str.ofString "<=") 2464), (.int 29 2350)⟩,
    ⟨PyData.keyHash P (Str.ofString "="), (.str (Str.ofString "=") 2466), (.int 22 2336)⟩,
    ⟨PyData.keyHash P (Str.ofString "=="), (.str (Str.ofString "==") 2468), (.int 27 2346)⟩,
    ⟨PyData.keyHash P (Str.ofString ">"), (.str (Str.ofString ">") 2470), (.int 21 2334)⟩] 17), #[]⟩
noncomputable def o123 (P : Params) : Obj := ⟨(.type "dict"), none, (.dict #[⟨PyData.keyHash P (Str.ofString ">="), (.str (Str.ofString ">=") 2472), (.int 30 2352)⟩,
    ⟨PyData.keyHash P (Str.ofString ">>"), (.str (Str.ofString ">>") 2473), (.int 34 2360)⟩,
    ⟨PyData.keyHash P (Str.ofString ">>="), (.str (Str.ofString ">>=") 2474), (.int 45 2382)⟩,
    ⟨PyData.keyHash P (Str.ofString "@"), (.str (Str.ofString "@") 2475), (.int 49 2390)⟩,
    ⟨PyData.keyHash P (Str.ofString "@="), (.str (Str.ofString "@=") 2476), (.int 50 2392)⟩,
    ⟨PyData.keyHash P (Str.ofString "["), (.str (Str.ofString "[") 2477), (.int 9 2310)⟩,
    ⟨PyData.keyHash P (Str.ofString "]"), (.str (Str.ofString "]") 2478), (.int 10 2312)⟩,
    ⟨PyData.keyHash P (Str.ofString "^"), (.str (Str.ofString "^") 2479), (.int 32 2356)⟩,
    ⟨PyData.keyHash P (Str.ofString "^="), (.str (Str.ofString "^=") 2480), (.int 43 2378)⟩,
    ⟨PyData.keyHash P (Str.ofString "{"), (.str (Str.ofString "{") 2481), (.int 25 2342)⟩,
    ⟨PyData.keyHash P (Str.ofString "|"), (.str (Str.ofString "|") 2482), (.int 18 2328)⟩,
    ⟨PyData.keyHash P (Str.ofString "|="), (.str (Str.ofString "|=") 2483), (.int 42 2376)⟩,
    ⟨PyData.keyHash P (Str.ofString "}"), (.str (Str.ofString "}") 2484), (.int 26 2344)⟩,
    ⟨PyData.keyHash P (Str.ofString "~"), (.str (Str.ofString "~") 2485), (.int 31 2354)⟩] 14), #[]⟩
noncomputable def o124 (P : Params) : Obj := ⟨(.type "tuple"), none, (.seq #[] 0), #[]⟩
noncomputable def o125 (P : Params) : Obj := ⟨.none, none, (.fields #[]), #[]⟩
noncomputable def o126 (P : Params) : Obj := ⟨(.type "tuple"), none, (.seq #[(.str (Str.ofString "x") 2504)] 0), #[]⟩
noncomputable def o127 (P : Params) : Obj := ⟨(.type "tuple"), none, (.seq #[] 0), #[]⟩
noncomputable def o128 (P : Params) : Obj := ⟨.none, none, (.func (fnBare 66)), #[]⟩
noncomputable def o129 (P : Params) : Obj := ⟨(.type "code"), none, (.fields #[(.str (Str.ofString "ISTERMINAL") 2501), (.str (Str.ofString "ISTERMINAL") 2502), (.str (Str.ofString "/claim/cut.py") 2503), (.int 165 0), (.int 1 0), (.int 0 0), (.int 0 0), (.int 3 0), (.ref 124), (.bool true), (.int 181 0), (.ref 125), .none, (.ref 126), (.ref 127), (.ref 128), (.int 2505 0), (.int 165 0), (.str (Str.ofString "/claim/cut.py") 2506)]), #[]⟩
noncomputable def o130 (P : Params) : Obj := ⟨(.type "function"), none, (.func (fnData 66 (.ref 129) (.str (Str.ofString "cpy313.token") 2302))), #[]⟩
noncomputable def o131 (P : Params) : Obj := ⟨(.type "tuple"), none, (.seq #[] 0), #[]⟩
noncomputable def o132 (P : Params) : Obj := ⟨.none, none, (.fields #[]), #[]⟩
noncomputable def o133 (P : Params) : Obj := ⟨(.type "tuple"), none, (.seq #[(.str (Str.ofString "x") 2511)] 0), #[]⟩
noncomputable def o134 (P : Params) : Obj := ⟨(.type "tuple"), none, (.seq #[] 0), #[]⟩
noncomputable def o135 (P : Params) : Obj := ⟨.none, none, (.func (fnBare 67)), #[]⟩
noncomputable def o136 (P : Params) : Obj := ⟨(.type "code"), none, (.fields #[(.str (Str.ofString "ISEOF") 2508), (.str (Str.ofString "ISEOF") 2509), (.str (Str.ofString "/claim/cut.py") 2510), (.int 167 0), (.int 1 0), (.int 0 0), (.int 0 0), (.int 3 0), (.ref 131), (.bool true), (.int 181 0), (.ref 132), .none, (.ref 133), (.ref 134), (.ref 135), (.int 2512 0), (.int 167 0), (.str (Str.ofString "/claim/cut.py") 2513)]), #[]⟩
noncomputable def o137 (P : Params) : Obj := ⟨(.type "function"), none, (.func (fnData 67 (.ref 136) (.str (Str.ofString "cpy313.token") 2302))), #[]⟩
noncomputable def o138 (P : Params) : Obj := ⟨(.type "tuple"), none, (.seq #[] 0), #[]⟩
noncomputable def o139 (P : Params) : Obj := ⟨.none, none, (.fields #[]), #[]⟩
noncomputable def o140 (P : Params) : Obj := ⟨.none, none, (.func (fnBare 69)), #[]⟩
noncomputable def o141 (P : Params) : Obj := ⟨(.type "code"), none, (.fields #[(.str (Str.ofString "_law_number") 2517), (.str (Str.ofString "_law_number") 2518), (.str (Str.ofString "/claim/cut.py") 2519), (.int 170 0), (.int 1 0), (.int 0 0), (.int 0 0), (.int 3 0), (.ref 138), (.bool true), (.int 181 0), (.ref 139), .none, .none, .none, (.ref 140), (.int 2520 0), (.int 170 0), (.str (Str.ofString "/claim/cut.py") 2521)]), #[]⟩
noncomputable def o142 (P : Params) : Obj := ⟨(.type "function"), none, (.func (fnData 69 (.ref 141) (.str (Str.ofString "law_wf0099_01") 2515))), #[]⟩
noncomputable def o143 (P : Params) : Obj := ⟨(.type "tuple"), none, (.seq #[] 0), #[]⟩
noncomputable def o144 (P : Params) : Obj := ⟨.none, none, (.fields #[]), #[]⟩
noncomputable def o145 (P : Params) : Obj := ⟨(.type "tuple"), none, (.seq #[(.str (Str.ofString "part") 2526), (.str (Str.ofString "row") 2527), (.str (Str.ofString "at") 2528), (.str (Str.ofString "size") 2529), (.str (Str.ofString "word") 2530)] 0), #[]⟩
noncomputable def o146 (P : Params) : Obj := ⟨(.type "tuple"), none, (.seq #[] 0), #[]⟩
noncomputable def o147 (P : Params) : Obj := ⟨.none, none, (.func (fnBare 70)), #[]⟩
noncomputable def o148 (P : Params) : Obj := ⟨(.type "code"), none, (.fields #[(.str (Str.ofString "_law_symbols") 2523), (.str (Str.ofString "_law_symbols") 2524), (.str (Str.ofString "/claim/cut.py") 2525), (.int 190 0), (.int 1 0), (.int 0 0), (.int 0 0), (.int 3 0), (.ref 143), (.bool true), (.int 181 0), (.ref 144), .none, (.ref 145), (.ref 146), (.ref 147), (.int 2531 0), (.int 190 0), (.str (Str.ofString "/claim/cut.py") 2532)]), #[]⟩
noncomputable def o149 (P : Params) : Obj := ⟨(.type "function"), none, (.func (fnData 70 (.ref 148) (.str (Str.ofString "law_wf0099_01") 2515))), #[]⟩
noncomputable def o150 (P : Params) : Obj := ⟨(.type "tuple"), none, (.seq #[] 0), #[]⟩
noncomputable def o151 (P : Params) : Obj := ⟨.none, none, (.fields #[]), #[]⟩
noncomputable def o152 (P : Params) : Obj := ⟨(.type "tuple"), none, (.seq #[(.str (Str.ofString "place") 2537)] 0), #[]⟩
noncomputable def o153 (P : Params) : Obj := ⟨(.type "tuple"), none, (.seq #[] 0), #[]⟩
noncomputable def o154 (P : Params) : Obj := ⟨.none, none, (.func (fnBare 71)), #[]⟩
noncomputable def o155 (P : Params) : Obj := ⟨(.type "code"), none, (.fields #[(.str (Str.ofString "_law_paint") 2534), (.str (Str.ofString "_law_paint") 2535), (.str (Str.ofString "/claim/cut.py") 2536), (.int 205 0), (.int 1 0), (.int 0 0), (.int 0 0), (.int 3 0), (.ref 150), (.bool true), (.int 181 0), (.ref 151), .none, (.ref 152), (.ref 153), (.ref 154), (.int 2538 0), (.int 205 0), (.str (Str.ofString "/claim/cut.py") 2539)]), #[]⟩
noncomputable def o156 (P : Params) : Obj := ⟨(.type "function"), none, (.func (fnData 71 (.ref 155) (.str (Str.ofString "law_wf0099_01") 2515))), #[]⟩
noncomputable def o157 (P : Params) : Obj := ⟨(.type "tuple"), none, (.seq #[] 0), #[]⟩
noncomputable def o158 (P : Params) : Obj := ⟨.none, none, (.fields #[]), #[]⟩
noncomputable def o159 (P : Params) : Obj := ⟨(.type "tuple"), none, (.seq #[(.str (Str.ofString "over") 2544), (.str (Str.ofString "under") 2545), (.str (Str.ofString "still") 2546), (.str (Str.ofString "moved") 2547)] 0), #[]⟩
noncomputable def o160 (P : Params) : Obj := ⟨(.type "tuple"), none, (.seq #[] 0), #[]⟩
noncomputable def o161 (P : Params) : Obj := ⟨.none, none, (.func (fnBare 72)), #[]⟩
noncomputable def o162 (P : Params) : Obj := ⟨(.type "code"), none, (.fields #[(.str (Str.ofString "_law_mirror") 2541), (.str (Str.ofString "_law_mirror") 2542), (.str (Str.ofString "/claim/cut.py") 2543), (.int 207 0), (.int 2 0), (.int 0 0), (.int 0 0), (.int 3 0), (.ref 157), (.bool true), (.int 181 0), (.ref 158), .none, (.ref 159), (.ref 160), (.ref 161), (.int 2548 0), (.int 207 0), (.str (Str.ofString "/claim/cut.py") 2549)]), #[]⟩
noncomputable def o163 (P : Params) : Obj := ⟨(.type "function"), none, (.func (fnData 72 (.ref 162) (.str (Str.ofString "law_wf0099_01") 2515))), #[]⟩
noncomputable def o164 (P : Params) : Obj := ⟨(.type "tuple"), none, (.seq #[] 0), #[]⟩
noncomputable def o165 (P : Params) : Obj := ⟨.none, none, (.fields #[]), #[]⟩
noncomputable def o166 (P : Params) : Obj := ⟨(.type "tuple"), none, (.seq #[(.str (Str.ofString "one") 2554), (.str (Str.ofString "gain") 2555)] 0), #[]⟩
noncomputable def o167 (P : Params) : Obj := ⟨(.type "tuple"), none, (.seq #[] 0), #[]⟩
noncomputable def o168 (P : Params) : Obj := ⟨.none, none, (.func (fnBare 73)), #[]⟩
noncomputable def o169 (P : Params) : Obj := ⟨(.type "code"), none, (.fields #[(.str (Str.ofString "_law_turned") 2551), (.str (Str.ofString "_law_turned") 2552), (.str (Str.ofString "/claim/cut.py") 2553), (.int 211 0), (.int 2 0), (.int 0 0), (.int 0 0), (.int 3 0), (.ref 164), (.bool true), (.int 181 0), (.ref 165), .none, (.ref 166), (.ref 167), (.ref 168), (.int 2556 0), (.int 211 0), (.str (Str.ofString "/claim/cut.py") 2557)]), #[]⟩
noncomputable def o170 (P : Params) : Obj := ⟨(.type "function"), none, (.func (fnData 73 (.ref 169) (.str (Str.ofString "law_wf0099_01") 2515))), #[]⟩
noncomputable def o171 (P : Params) : Obj := ⟨(.type "tuple"), none, (.seq #[] 0), #[]⟩
noncomputable def o172 (P : Params) : Obj := ⟨.none, none, (.fields #[]), #[]⟩
noncomputable def o173 (P : Params) : Obj := ⟨.none, none, (.func (fnBare 74)), #[]⟩
noncomputable def o174 (P : Params) : Obj := ⟨(.type "code"), none, (.fields #[(.str (Str.ofString "_law_done") 2559), (.str (Str.ofString "_law_done") 2560), (.str (Str.ofString "/claim/cut.py") 2561), (.int 213 0), (.int 2 0), (.int 0 0), (.int 0 0), (.int 3 0), (.ref 171), (.bool true), (.int 181 0), (.ref 172), .none, .none, .none, (.ref 173), (.int 2562 0), (.int 213 0), (.str (Str.ofString "/claim/cut.py") 2563)]), #[]⟩
noncomputable def o175 (P : Params) : Obj := ⟨(.type "function"), none, (.func (fnData 74 (.ref 174) (.str (Str.ofString "law_wf0099_01") 2515))), #[]⟩
noncomputable def o176 (P : Params) : Obj := ⟨(.type "tuple"), none, (.seq #[] 0), #[]⟩
noncomputable def o177 (P : Params) : Obj := ⟨.none, none, (.fields #[]), #[]⟩
noncomputable def o178 (P : Params) : Obj := ⟨(.type "tuple"), none, (.seq #[(.str (Str.ofString "place") 2568), (.str (Str.ofString "parts") 2569), (.str (Str.ofString "corner") 2570), (.str (Str.ofString "far") 2571)] 0), #[]⟩
noncomputable def o179 (P : Params) : Obj := ⟨(.type "tuple"), none, (.seq #[] 0), #[]⟩
noncomputable def o180 (P : Params) : Obj := ⟨.none, none, (.func (fnBare 75)), #[]⟩
noncomputable def o181 (P : Params) : Obj := ⟨(.type "code"), none, (.fields #[(.str (Str.ofString "_law_shine") 2565), (.str (Str.ofString "_law_shine") 2566), (.str (Str.ofString "/claim/cut.py") 2567), (.int 231 0), (.int 1 0), (.int 0 0), (.int 0 0), (.int 3 0), (.ref 176), (.bool true), (.int 181 0), (.ref 177), .none, (.ref 178), (.ref 179), (.ref 180), (.int 2572 0), (.int 231 0), (.str (Str.ofString "/claim/cut.py") 2573)]), #[]⟩
noncomputable def o182 (P : Params) : Obj := ⟨(.type "function"), none, (.func (fnData 75 (.ref 181) (.str (Str.ofString "law_wf0099_01") 2515))), #[]⟩
noncomputable def o183 (P : Params) : Obj := ⟨(.type "tuple"), none, (.seq #[] 0), #[]⟩
noncomputable def o184 (P : Params) : Obj := ⟨.none, none, (.fields #[]), #[]⟩
noncomputable def o185 (P : Params) : Obj := ⟨.none, none, (.func (fnBare 76)), #[]⟩
noncomputable def o186 (P : Params) : Obj := ⟨(.type "code"), none, (.fields #[(.str (Str.ofString "law") 2575), (.str (Str.ofString "law") 2576), (.str (Str.ofString "/claim/cut.py") 2577), (.int 237 0), (.int 1 0), (.int 0 0), (.int 0 0), (.int 3 0), (.ref 183), (.bool true), (.int 181 0), (.ref 184), .none, .none, .none, (.ref 185), (.int 2578 0), (.int 237 0), (.str (Str.ofString "/claim/cut.py") 2579)]), #[]⟩
noncomputable def o187 (P : Params) : Obj := ⟨(.type "function"), none, (.func (fnData 76 (.ref 186) (.str (Str.ofString "law_wf0099_01") 2515))), #[]⟩

noncomputable abbrev q0 : Pos := ⟨0, 0, 0, 0⟩
noncomputable abbrev B0 : List Frame := [topFrame q0]
noncomputable def bAll : List Stmt := behindTheImports PW
noncomputable def cdAll : Code := .body bAll env1
noncomputable def stT (T : BT) (n toks : Nat) (os : OsState) : SharedT := ⟨T, n, {}, #[], {}, toks, os⟩
noncomputable def insAll : List Obj → Nat → BT → BT
  | [], _, T => T
  | o :: r, i, T => insAll r (i + 1) (T.ins i o)
@[irreducible] noncomputable def T4 (P : Params) : BT := insAll [boot_o_0 P, boot_o_1 P, boot_o_2 P, boot_o_3 P, boot_o_4 P, boot_o_5 P, boot_o_6 P, boot_o_7 P, boot_o_8 P, boot_o_9 P, boot_o_10 P, o11 P, o12x0 P, o13 P, o14 P] 0 BT.nil
@[irreducible] noncomputable def T10 (P : Params) : BT := insAll [o15 P, o16 P, o17 P, o18 P, o19 P, o20 P, o21 P, o22 P, o23 P, o24 P, o25 P, o26 P, o27 P, o28 P, o29 P, o30 P, o31 P, o32 P, o33 P, o34 P, o35 P, o36 P, o37 P, o38 P, o39 P, o40 P, o41 P, o42 P, o43 P, o44 P, o45 P, o46 P, o47 P, o48 P, o49 P, o50 P, o51 P, o52 P, o53 P, o54 P, o55 P, o56 P] 15 (((T4 P).set 3 (fun _ => o3x9 P)).set 12 (fun _ => o12x9 P))
@[irreducible] noncomputable def T11 (P : Params) : BT := insAll [o57 P, o58 P, o59 P, o60 P, o61 P, o62 P, o63 P, o64 P, o65 P, o66 P, o67 P] 57 ((T10 P).set 3 (fun _ => o3x10 P))
@[irreducible] noncomputable def T12 (P : Params) : BT := insAll [o68 P, o69 P, o70 P, o71 P, o72 P, o73 P, o74 P] 68 (((T11 P).set 3 (fun _ => o3x11 P)).set 12 (fun _ => o12x11 P))
noncomputable def seg10 (w : World) (os : OsState) : Option (Flow × SharedT × Code × Pos) := segRunT treeTable PW w 11 annF 1 999 (stT (T10 w.params) 57 276 os) (piecesOf ((bAll.drop 10).take 1) env1 cdAll ⟨103, 0, 103, 8⟩ B0)
noncomputable def res10 (w : World) (os : OsState) : Option (Flow × SharedT × Code × Pos) := some (.next, stT (T11 w.params) 68 336 os, cdAll, ⟨104, 0, 104, 6⟩)
noncomputable def seg11 (w : World) (os : OsState) : Option (Flow × SharedT × Code × Pos) := segRunT treeTable PW w 11 annF 1 30 (stT (T11 w.params) 68 336 os) (piecesOf ((bAll.drop 11).take 1) env1 cdAll ⟨104, 0, 104, 6⟩ B0)
noncomputable def res11 (w : World) (os : OsState) : Option (Flow × SharedT × Code × Pos) := some (.next, stT (T12 w.params) 75 343 os, cdAll, ⟨105, 0, 106, 30⟩)
theorem seg11_is : seg11 = res11 := by
  funext w
  kernel_rfl
noncomputable def seg0 (w : World) (os : OsState) : Option (Flow × SharedT × Code × Pos) := segRunT treeTable PW w 11 annF 1 250 (stT (T4 w.params) 15 187 os) (piecesOf (bAll.take 10) env1 cdAll q0 B0)
noncomputable def res0 (w : World) (os : OsState) : Option (Flow × SharedT × Code × Pos) := some (.next, stT (T10 w.params) 57 276 os, cdAll, ⟨103, 0, 103, 8⟩)
theorem seg0_is : seg0 = res0 := by
  funext w
  kernel_rfl
noncomputable def seg10g (p : Program) (sts : List Stmt) (env : Env) (cd : Code) (st : SharedT) (w : World) : Option (Flow × SharedT × Code × Pos) := segRunT treeTable p w 11 annF 1 999 st (piecesOf sts env cd ⟨103, 0, 103, 8⟩ [topFrame ⟨0, 0, 0, 0⟩])
noncomputable def seg10gQ (p : Program) (sts : List Stmt) (env : Env) (cd : Code) (st : SharedT) (w : World) : Option (Flow × SharedT × Code × Pos) := PySem.W.Fast.tw10110043849684766642 PySem.W.Fast.tw14364793385576792824 p w 11 annF 1 999 st (piecesOf sts env cd ⟨103, 0, 103, 8⟩ [topFrame ⟨0, 0, 0, 0⟩])
theorem seg10gQ_eq : seg10g = seg10gQ := by
  unfold seg10g seg10gQ
  rw [PySem.W.Fast.te10110043849684766642, PySem.W.Fast.te14364793385576792824]
noncomputable abbrev seg10q (w : World) (os : OsState) : Option (Flow × SharedT × Code × Pos) := seg10gQ PW ((bAll.drop 10).take 1) env1 cdAll (stT (T10 w.params) 57 276 os) w
theorem seg10_f (w : World) : seg10q (w.withFollow "special-get-raises" false) = res10 (w.withFollow "special-get-raises" false) := by kernel_rfl
theorem seg10_t (w : World) : seg10q (w.withFollow "special-get-raises" true) = res10 (w.withFollow "special-get-raises" true) := by kernel_rfl
theorem seg10_is : seg10 = res10 := by
  funext w
  have h := byRow2 "special-get-raises" (P := fun w => seg10q w = res10 w) seg10_f seg10_t w
  have e : seg10 w = fun os => seg10g PW ((bAll.drop 10).take 1) env1 cdAll (stT (T10 w.params) 57 276 os) w := rfl
  rw [e, seg10gQ_eq]
  exact h
end Mine
end
section
set_option Elab.async false
set_option maxRecDepth 100000
set_option maxHeartbeats 0
set_option linter.unusedVariables false
namespace Mine
open PySem PySem.W PyProof.Rows
noncomputable def o3x12 (P : Params) : Obj := ⟨(.type "dict"), none, (.dict #[⟨PyData.keyHash P (Str.ofString "__name__"), (.str (Str.ofString "__name__") 165), (.str (Str.ofString "cpy313.stringprep") 274)⟩,
    ⟨PyData.keyHash P (Str.ofString "__doc__"), (.str (Str.ofString "__doc__") 166), .none⟩,
    ⟨PyData.keyHash P (Str.ofString "__package__"), (.str (Str.ofString "__package__") 167), .none⟩,
    ⟨PyData.keyHash P (Str.ofString "__loader__"), (.str (Str.ofString "__loader__") 168), (.builtin "__main__.__loader__#opaque")⟩,
    ⟨PyData.keyHash P (Str.ofString "__spec__"), (.str (Str.ofString "__spec__") 169), .none⟩,
    ⟨PyData.keyHash P (Str.ofString "__annotations__"), (.str (Str.ofString "__annotations__") 170), (.ref 6)⟩,
    ⟨PyData.keyHash P (Str.ofString "__builtins__"), (.str (Str.ofString "__builtins__") 171), (.ref 4)⟩,
    ⟨PyData.keyHash P (Str.ofString "__file__"), (.str (Str.ofString "__file__") 173), (.str (Str.ofString "/claim/cut.py") 172)⟩,
    ⟨PyData.keyHash P (Str.ofString "__cached__"), (.str (Str.ofString "__cached__") 174), .none⟩,
    ⟨PyData.keyHash P (Str.ofString "rgb_to_hls"), (.str (Str.ofString "rgb_to_hls") 207), (.ref 21)⟩,
    ⟨PyData.keyHash P (Str.ofString "rgb_to_hsv"), (.str (Str.ofString "rgb_to_hsv") 225), (.ref 28)⟩,
    ⟨PyData.keyHash P (Str.ofString "hsv_to_rgb"), (.str (Str.ofString "hsv_to_rgb") 239), (.ref 35)⟩,
    ⟨PyData.keyHash P (Str.ofString "TICK"), (.str (Str.ofString "TICK") 243), (.str (Str.ofString "'") 242)⟩,
    ⟨PyData.keyHash P (Str.ofString "_iter_escaped_chars"), (.str (Str.ofString "_iter_escaped_chars") 253), (.ref 42)⟩,
    ⟨PyData.keyHash P (Str.ofString "_strip_quoted_realnames"), (.str (Str.ofString "_strip_quoted_realnames") 265), (.ref 49)⟩,
    ⟨PyData.keyHash P (Str.ofString "decode_rfc2231"), (.str (Str.ofString "decode_rfc2231") 273), (.ref 56)⟩,
    ⟨PyData.keyHash P (Str.ofString "b1_set"), (.str (Str.ofString "b1_set") 335), (.ref 64)⟩,
    ⟨PyData.keyHash P (Str.ofString "in_table_b1"), (.str (Str.ofString "in_table_b1") 342), (.ref 74)⟩,
    ⟨PyData.keyHash P (Str.ofString "b3_exceptions"), (.str (Str.ofString "b3_exceptions") 2293), (.ref 75)⟩] 19), #[]⟩
noncomputable def dictParts : Stmt → Option (List (Option Expr) × List Expr)
  | .Assign _ (.Dict ks vs _) _ => some (ks, vs)
  | _ => none
@[irreducible] noncomputable def b3kv : List (Option Expr) × List Expr := ((bAll[12]?).bind dictParts).getD ([], [])
noncomputable def cintOf : Expr → Option Int
  | .Constant (.int k) _ _ => some k
  | _ => none
theorem cintOf_some {e : Expr} {k : Int} (h : cintOf e = some k) : ∃ n p, e = .Constant (.int k) n p := by
  revert h
  cases e <;> intro h
  case Constant c n p =>
    cases c <;> cases h
    exact ⟨_, _, rfl⟩
  all_goals cases h
noncomputable def cstrOf : Expr → Option Str
  | .Constant (.str x) _ _ => some x
  | _ => none
theorem cstrOf_some {e : Expr} {x : Str} (h : cstrOf e = some x) : ∃ n p, e = .Constant (.str x) n p := by
  revert h
  cases e <;> intro h
  case Constant c n p =>
    cases c <;> cases h
    exact ⟨_, _, rfl⟩
  all_goals cases h
noncomputable def litPairs : List (Option Expr) → List Expr → Option (List KV)
  | [], [] => some []
  | some e :: ks, v :: vs => match cintOf e, cstrOf v, litPairs ks vs with
    | some i, some x, some l => some ((i, x) :: l)
    | _, _, _ => none
  | _, _ => none
@[irreducible] noncomputable def b3l : List KV := (litPairs b3kv.1 b3kv.2).getD []
theorem b3l_some : (litPairs b3kv.1 b3kv.2).isSome = true := by kernel_rfl
theorem b3l_is : litPairs b3kv.1 b3kv.2 = some b3l := by
  unfold b3l
  cases h : litPairs b3kv.1 b3kv.2 with
  | none => have := b3l_some; rw [h] at this; cases this
  | some l => rfl
noncomputable def psOf (env : Env) (pos : Pos) (ks : List (Option Expr)) (vs : List Expr) : List (Sem Value × Sem Value) := match ks, vs with
  | some k :: ks, v :: vs => (eval k env, do let x ← eval v env; standAt pos; pure x) :: psOf env pos ks vs
  | _, _ => []
theorem lit_ok {S : Setting} (env : Env) (pos : Pos) : ∀ (ks : List (Option Expr)) (vs : List Expr) (l : List KV), litPairs ks vs = some l →
    (evalEachOpt ks env).zip ((evalEach vs env).map fun v => do let x ← v; standAt pos; pure x) = (psOf env pos ks vs).map (fun p => (some p.1, p.2)) ∧ PairsOk S (psOf env pos ks vs) l
  | [], [], l, h => by
    have h : some [] = some l := h
    cases h
    exact ⟨rfl, .nil⟩
  | [], _ :: _, l, h => nomatch (show none = some l from h)
  | none :: _, _, l, h => by cases ‹List Expr› <;> exact nomatch (show none = some l from h)
  | some _ :: _, [], l, h => nomatch (show none = some l from h)
  | some e :: ks, v :: vs, l, h => by
    replace h : (match cintOf e, cstrOf v, litPairs ks vs with
      | some i, some x, some l => some ((i, x) :: l)
      | _, _, _ => none) = some l := h
    cases h1 : cintOf e with
    | none => rw [h1] at h; exact nomatch (show none = some l from h)
    | some i =>
      cases h2 : cstrOf v with
      | none => rw [h1, h2] at h; exact nomatch (show none = some l from h)
      | some x =>
        cases h3 : litPairs ks vs with
        | none => rw [h1, h2, h3] at h; exact nomatch (show none = some l from h)
        | some l' =>
          rw [h1, h2, h3] at h
          cases h
          obtain ⟨_, _, rfl⟩ := cintOf_some h1
          obtain ⟨_, _, rfl⟩ := cstrOf_some h2
          obtain ⟨e1, e2⟩ := lit_ok (S := S) env pos ks vs l' h3
          refine ⟨?_, .cons ⟨fun s => rfl, fun s => rfl⟩ e2⟩
          show (some (eval (.Constant (.int _) _ _) env), _) :: (evalEachOpt ks env).zip _ = _
          rw [e1]
          rfl
noncomputable def ascKeys : Int → List KV → Bool
  | _, [] => true
  | b, x :: r => decide (b < x.1) && ascKeys x.1 r
theorem asc_low : ∀ {l : List KV} {b : Int}, ascKeys b l = true → ∀ x ∈ l, b < x.1
  | x :: r, b, h, y, hy => by
    simp only [ascKeys, Bool.and_eq_true, decide_eq_true_eq] at h
    rcases List.mem_cons.mp hy with rfl | hy
    · exact h.1
    · have := asc_low h.2 y hy; omega
theorem hashInt_small {k : Int} (h0 : 0 < k) (h1 : k < 2 ^ 40) : hashInt k = k := by
  have hne : ¬ (k == -1) = true := by simp; omega
  have hlt : ¬ k < 0 := by omega
  have e : PySem.rawHash k = k := by
    unfold PySem.rawHash
    have h2 : (k.natAbs : Int) = k := by omega
    have h3 : k % ((2 ^ 61 - 1 : Nat) : Int) = k := Int.emod_eq_of_lt (by omega) (by omega)
    simp only [h2, h3, if_neg hlt, if_neg hne]
  unfold hashInt
  rw [e, if_neg hne]
theorem asc_apart : ∀ {l : List KV} {b : Int}, 0 ≤ b → ascKeys b l = true → (∀ x ∈ l, x.1 < 2 ^ 40) → l.Pairwise (fun x y => hashInt x.1 ≠ hashInt y.1)
  | [], _, _, _, _ => .nil
  | x :: r, b, hb, h, hl => by
    simp only [ascKeys, Bool.and_eq_true, decide_eq_true_eq] at h
    refine .cons (fun y hy => ?_) (asc_apart (by omega) h.2 fun y hy => hl y (.tail _ hy))
    have h1 := asc_low h.2 y hy
    rw [hashInt_small (by omega) (hl x (.head _)), hashInt_small (by omega) (hl y (.tail _ hy))]
    omega
theorem b3_asc : (ascKeys 0 b3l && b3l.all (fun x => decide (x.1 < 1099511627776)) && Nat.ble b3l.length 4096 && !b3l.isEmpty) = true := by kernel_rfl
theorem b3_apart : Apart [] b3l ∧ b3l.length ≤ 4096 ∧ b3l ≠ [] := by
  have h := b3_asc
  simp only [Bool.and_eq_true, List.all_eq_true, decide_eq_true_eq, Bool.not_eq_true'] at h
  obtain ⟨⟨⟨h1, h2⟩, h3⟩, h4⟩ := h
  refine ⟨⟨fun _ h => (nomatch h), asc_apart (Int.le_refl 0) h1 h2⟩, Nat.le_of_ble_eq_true h3, ?_⟩
  intro e
  rw [e] at h4
  cases h4

noncomputable def osT (s : SharedT) (os : OsState) : SharedT := ⟨s.tree, s.n, s.life, s.gens, s.drawn, s.toks, os⟩
noncomputable def osD (x : DSt) (os : OsState) : DSt := ⟨x.main, x.es, x.ep, osT x.s os, x.n⟩
theorem flushD_os (run : List KV) (x : DSt) (os : OsState) : flushD run (osD x os) = osD (flushD run x) os := by
  obtain ⟨main, es, ep, s, n⟩ := x
  cases run with
  | nil => rfl
  | cons y r => cases main <;> rfl
theorem loopD_os : ∀ (l run : List KV) (x : DSt) (os : OsState), loopD run l (osD x os) = osD (loopD run l x) os
  | [], run, x, os => flushD_os run x os
  | y :: r, run, x, os => by
    unfold loopD
    split
    · rw [flushD_os, loopD_os r]
    · exact loopD_os r _ x os
@[irreducible] noncomputable def dStart (P : Params) : DSt := ⟨none, [], 0, stT (T12 P) 75 343 {}, 0⟩
@[irreducible] noncomputable def dEnd (P : Params) : DSt := loopD [] b3l (dStart P)
theorem dEnd_main (P : Params) : (dEnd P).main = some 75 := by kernel_rfl
theorem dEnd_n (P : Params) : (dEnd P).s.n = 114 := by kernel_rfl
theorem dEnd_toks (P : Params) : (dEnd P).s.toks = 2293 := by kernel_rfl
theorem dEnd_steps (P : Params) : (dEnd P).n = 12515 := by kernel_rfl

theorem osT_eq {s : SharedT} {os : OsState} {n t : Nat} (h1 : s.n = n) (h2 : s.toks = t) (h3 : s.life = {} ∧ s.gens = #[] ∧ s.drawn = {}) : osT s os = stT s.tree n t os := by
  obtain ⟨T, m, life, gens, drawn, toks, os'⟩ := s
  obtain ⟨rfl, rfl, rfl⟩ := h3
  subst h1; subst h2
  rfl
theorem dEnd_rest (P : Params) : (dEnd P).s.life = {} ∧ (dEnd P).s.gens = #[] ∧ (dEnd P).s.drawn = {} := ⟨by kernel_rfl, by kernel_rfl, by kernel_rfl⟩
theorem dOs (P : Params) (os : OsState) : loopD [] b3l (osD (dStart P) os) = osD (dEnd P) os := by
  unfold dEnd; exact loopD_os b3l [] (dStart P) os
theorem osD_s (x : DSt) (os : OsState) : (osD x os).s = osT x.s os := rfl
theorem osD_main (x : DSt) (os : OsState) : (osD x os).main = x.main := rfl
theorem osD_n (x : DSt) (os : OsState) : (osD x os).n = x.n := rfl
theorem dEnd_state (P : Params) (os : OsState) : (loopD [] b3l (osD (dStart P) os)).s = stT (dEnd P).s.tree 114 2293 os := by
  rw [dOs, osD_s]
  exact osT_eq (dEnd_n P) (dEnd_toks P) (dEnd_rest P)
theorem dEnd_main' (P : Params) (os : OsState) : (loopD [] b3l (osD (dStart P) os)).main = some 75 := by
  rw [dOs, osD_main]; exact dEnd_main P
theorem dEnd_n' (P : Params) (os : OsState) : (loopD [] b3l (osD (dStart P) os)).n = 12515 := by
  rw [dOs, osD_n]; exact dEnd_steps P
noncomputable def fullB : Nat → BT → Bool
  | 0, _ => true
  | n + 1, T => (T.get n).isSome && fullB n T
theorem full_of : ∀ {n : Nat} {T : BT}, fullB n T = true → Full T n
  | 0, _, _, i, hi => absurd hi (Nat.not_lt_zero _)
  | n + 1, T, h, i, hi => by
    simp only [fullB, Bool.and_eq_true] at h
    by_cases e : i = n
    · subst e; exact h.1
    · exact full_of h.2 i (by omega)
theorem T12_full (P : Params) : Full (T12 P) 75 := full_of (by kernel_rfl)
@[irreducible] noncomputable def T13 (P : Params) : BT := (dEnd P).s.tree.set 3 (fun _ => o3x12 P)
end Mine
end
section
set_option Elab.async false
set_option maxRecDepth 100000
set_option maxHeartbeats 0
set_option linter.unusedVariables false
namespace Mine
open PySem PySem.W PyProof.Rows
noncomputable def sto12 (w : World) (os : OsState) : Rv Flow := evS ⟨PW, w.params⟩ (CF ⟨PW, w.params⟩) (do standAt ⟨107, 0, 107, 13⟩; bindName env1 (Str.ofString "b3_exceptions") (.ref 75); pure Flow.next) (stT (dEnd w.params).s.tree 114 2293 os)
noncomputable def sto12R (w : World) (os : OsState) : Rv Flow := some (.next, stT (T13 w.params) 114 2294 os, 7)
theorem sto12_is : sto12 = sto12R := by
  funext w
  kernel_rfl
end Mine
end
section
set_option Elab.async false
set_option maxRecDepth 100000
set_option maxHeartbeats 200000
set_option linter.unusedVariables false
namespace Mine
open PySem PySem.W PyProof.Rows
noncomputable def pos12 : Pos × Pos := match (bAll[12]? : Option Stmt) with
  | some (Stmt.Assign _ (Expr.Dict _ _ p) q) => (p, q)
  | _ => (default, default)
noncomputable def sts12 : List Stmt := (bAll.drop 12).take 1
theorem sts12_is : sts12 = [.Assign [.Name (Str.ofString "b3_exceptions") ⟨107, 0, 107, 13⟩] (.Dict b3kv.1 b3kv.2 pos12.1) pos12.2] := by kernel_rfl
theorem swaps12 : swapsWith (.Dict b3kv.1 b3kv.2 pos12.1) (some (.Name (Str.ofString "b3_exceptions") ⟨107, 0, 107, 13⟩)) pos12.2.line env1 = pure false := by kernel_rfl
theorem eval_Dict (ks : List (Option Expr)) (vs : List Expr) (p : Pos) (env : Env) : eval (.Dict ks vs p) env = (do standAt p; dictDisplay ((evalEachOpt ks env).zip ((evalEach vs env).map fun v => do let x ← v; standAt p; pure x))) := rfl
theorem ev_at {S : Setting} {cf : Code → SharedT → Rv Flow} (p : Pos) (s : SharedT) : Ev S cf (standAt p) s () s 1 := rfl
theorem ev12s (w : World) (os : OsState) : Ev ⟨PW, w.params⟩ (CF ⟨PW, w.params⟩) (do standAt ⟨107, 0, 107, 13⟩; bindName env1 (Str.ofString "b3_exceptions") (.ref 75); pure Flow.next) (stT (dEnd w.params).s.tree 114 2293 os) .next (stT (T13 w.params) 114 2294 os) 7 := by
  have h := congrFun (congrFun sto12_is w) os
  unfold sto12 sto12R at h
  exact h
theorem dStart_os (P : Params) (os : OsState) : (⟨none, [], 0, stT (T12 P) 75 343 os, 0⟩ : DSt) = osD (dStart P) os := by
  simp only [dStart, osD, osT, stT]
theorem wf12 (P : Params) (os : OsState) : Wf (stT (T12 P) 75 343 os) := by
  have h := T12_full P
  unfold Wf stT
  exact h
theorem ble12 (P : Params) (os : OsState) : Nat.ble 11 (stT (T12 P) 75 343 os).n = true := by
  simp only [stT]; decide
theorem ev12d (w : World) (os : OsState) : Ev ⟨PW, w.params⟩ (CF ⟨PW, w.params⟩) (dictDisplay ((psOf env1 pos12.1 b3kv.1 b3kv.2).map fun p => (some p.1, p.2))) (stT (T12 w.params) 75 343 os) (.ref 75) (stT (dEnd w.params).s.tree 114 2293 os) 12515 := by
  obtain ⟨e1, P⟩ := lit_ok (S := ⟨PW, w.params⟩) env1 pos12.1 b3kv.1 b3kv.2 b3l b3l_is
  obtain ⟨a1, a2, a3⟩ := b3_apart
  have key : ∀ (x : DSt), x = osD (dStart w.params) os → (∃ n d, (loopD [] b3l x).n = n ∧ (loopD [] b3l x).main = some d ∧ Ev ⟨PW, w.params⟩ (CF ⟨PW, w.params⟩) (dictDisplay ((psOf env1 pos12.1 b3kv.1 b3kv.2).map fun p => (some p.1, p.2))) (stT (T12 w.params) 75 343 os) (.ref d) (loopD [] b3l x).s n) →
      Ev ⟨PW, w.params⟩ (CF ⟨PW, w.params⟩) (dictDisplay ((psOf env1 pos12.1 b3kv.1 b3kv.2).map fun p => (some p.1, p.2))) (stT (T12 w.params) 75 343 os) (.ref 75) (stT (dEnd w.params).s.tree 114 2293 os) 12515 := by
    intro x hx ⟨n, d, f1, f2, f3⟩
    subst hx
    rw [dEnd_n'] at f1
    rw [dEnd_main'] at f2
    rw [dEnd_state] at f3
    cases f2
    subst f1
    exact f3
  exact key ⟨none, [], 0, stT (T12 w.params) 75 343 os, 0⟩ (dStart_os w.params os) (ev_display P (s := stT (T12 w.params) 75 343 os) (wf12 w.params os) (ble12 w.params os) a1 a2 a3)
theorem ev12e (w : World) (os : OsState) : Ev ⟨PW, w.params⟩ (CF ⟨PW, w.params⟩) (eval (.Dict b3kv.1 b3kv.2 pos12.1) env1) (stT (T12 w.params) 75 343 os) (.ref 75) (stT (dEnd w.params).s.tree 114 2293 os) (1 + 12515) := by
  rw [eval_Dict, (lit_ok (S := ⟨PW, w.params⟩) env1 pos12.1 b3kv.1 b3kv.2 b3l b3l_is).1]
  exact ev_bind (ev_at _ _) (ev12d w os)
theorem ev12 (w : World) (os : OsState) : Ev ⟨PW, w.params⟩ (CF ⟨PW, w.params⟩) (execs sts12 env1) (stT (T12 w.params) 75 343 os) .next (stT (T13 w.params) 114 2294 os) ((1 + (1 + 12515 + 7)) + 0) := by
  rw [sts12_is, execs_cons]
  refine ev_bind (a := Flow.next) (s1 := stT (T13 w.params) 114 2294 os) ?_ (ev_pure _ _)
  rw [exec_Assign_Name _ _ _ _ _ swaps12]
  exact ev_bind (ev_at _ _) (ev_bind (ev12e w os) (ev12s w os))
theorem run12 (w : World) (os : OsState) (pos : Pos) : ∃ pos', segRun treeTable PW w 11 annF 1 ((1 + (1 + 12515 + 7)) + 0 + 1) (stT (T12 w.params) 75 343 os).abs (piecesOf sts12 env1 cdAll pos B0) = some (.next, (stT (T13 w.params) 114 2294 os).abs, cdAll, pos') := by
  obtain ⟨pos', h⟩ := evS_sound (p := PW) (w := w) (evC_sound 3) _ _ _ _ _ (ev12 w os) doneF deadEnd id id cdAll pos B0 (by intro e; cases e)
  exact ⟨pos', seg_go (segGo_of h) rfl⟩
end Mine
end
section
set_option Elab.async false
set_option maxRecDepth 100000
set_option maxHeartbeats 0
set_option linter.unusedVariables false
namespace Mine
open PySem PySem.W PyProof.Rows
noncomputable def o3x64 (P : Params) : Obj := ⟨(.type "dict"), none, (.dict #[⟨PyData.keyHash P (Str.ofString "__name__"), (.str (Str.ofString "__name__") 165), (.str (Str.ofString "cpy313.token") 2302)⟩,
    ⟨PyData.keyHash P (Str.ofString "__doc__"), (.str (Str.ofString "__doc__") 166), .none⟩,
    ⟨PyData.keyHash P (Str.ofString "__package__"), (.str (Str.ofString "__package__") 167), .none⟩,
    ⟨PyData.keyHash P (Str.ofString "__loader__"), (.str (Str.ofString "__loader__") 168), (.builtin "__main__.__loader__#opaque")⟩,
    ⟨PyData.keyHash P (Str.ofString "__spec__"), (.str (Str.ofString "__spec__") 169), .none⟩,
    ⟨PyData.keyHash P (Str.ofString "__annotations__"), (.str (Str.ofString "__annotations__") 170), (.ref 6)⟩,
    ⟨PyData.keyHash P (Str.ofString "__builtins__"), (.str (Str.ofString "__builtins__") 171), (.ref 4)⟩,
    ⟨PyData.keyHash P (Str.ofString "__file__"), (.str (Str.ofString "__file__") 173), (.str (Str.ofString "/claim/cut.py") 172)⟩,
    ⟨PyData.keyHash P (Str.ofString "__cached__"), (.str (Str.ofString "__cached__") 174), .none⟩,
    ⟨PyData.keyHash P (Str.ofString "rgb_to_hls"), (.str (Str.ofString "rgb_to_hls") 207), (.ref 21)⟩,
    ⟨PyData.keyHash P (Str.ofString "rgb_to_hsv"), (.str (Str.ofString "rgb_to_hsv") 225), (.ref 28)⟩,
    ⟨PyData.keyHash P (Str.ofString "hsv_to_rgb"), (.str (Str.ofString "hsv_to_rgb") 239), (.ref 35)⟩,
    ⟨PyData.keyHash P (Str.ofString "TICK"), (.str (Str.ofString "TICK") 243), (.str (Str.ofString "'") 242)⟩,
    ⟨PyData.keyHash P (Str.ofString "_iter_escaped_chars"), (.str (Str.ofString "_iter_escaped_chars") 253), (.ref 42)⟩,
    ⟨PyData.keyHash P (Str.ofString "_strip_quoted_realnames"), (.str (Str.ofString "_strip_quoted_realnames") 265), (.ref 49)⟩,
    ⟨PyData.keyHash P (Str.ofString "decode_rfc2231"), (.str (Str.ofString "decode_rfc2231") 273), (.ref 56)⟩,
    ⟨PyData.keyHash P (Str.ofString "b1_set"), (.str (Str.ofString "b1_set") 335), (.ref 64)⟩,
    ⟨PyData.keyHash P (Str.ofString "in_table_b1"), (.str (Str.ofString "in_table_b1") 342), (.ref 74)⟩,
    ⟨PyData.keyHash P (Str.ofString "b3_exceptions"), (.str (Str.ofString "b3_exceptions") 2293), (.ref 75)⟩,
    ⟨PyData.keyHash P (Str.ofString "map_table_b3"), (.str (Str.ofString "map_table_b3") 2301), (.ref 120)⟩,
    ⟨PyData.keyHash P (Str.ofString "ENDMARKER"), (.str (Str.ofString "ENDMARKER") 2305), (.int 0 2304)⟩,
    ⟨PyData.keyHash P (Str.ofString "LPAR"), (.str (Str.ofString "LPAR") 2307), (.int 7 2306)⟩,
    ⟨PyData.keyHash P (Str.ofString "RPAR"), (.str (Str.ofString "RPAR") 2309), (.int 8 2308)⟩,
    ⟨PyData.keyHash P (Str.ofString "LSQB"), (.str (Str.ofString "LSQB") 2311), (.int 9 2310)⟩,
    ⟨PyData.keyHash P (Str.ofString "RSQB"), (.str (Str.ofString "RSQB") 2313), (.int 10 2312)⟩,
    ⟨PyData.keyHash P (Str.ofString "COLON"), (.str (Str.ofString "COLON") 2315), (.int 11 2314)⟩,
    ⟨PyData.keyHash P (Str.ofString "COMMA"), (.str (Str.ofString "COMMA") 2317), (.int 12 2316)⟩,
    ⟨PyData.keyHash P (Str.ofString "SEMI"), (.str (Str.ofString "SEMI") 2319), (.int 13 2318)⟩,
    ⟨PyData.keyHash P (Str.ofString "PLUS"), (.str (Str.ofString "PLUS") 2321), (.int 14 2320)⟩,
    ⟨PyData.keyHash P (Str.ofString "MINUS"), (.str (Str.ofString "MINUS") 2323), (.int 15 2322)⟩,
    ⟨PyData.keyHash P (Str.ofString "STAR"), (.str (Str.ofString "STAR") 2325), (.int 16 2324)⟩,
    ⟨PyData.keyHash P (Str.ofString "SLASH"), (.str (Str.ofString "SLASH") 2327), (.int 17 2326)⟩,
    ⟨PyData.keyHash P (Str.ofString "VBAR"), (.str (Str.ofString "VBAR") 2329), (.int 18 2328)⟩,
    ⟨PyData.keyHash P (Str.ofString "AMPER"), (.str (Str.ofString "AMPER") 2331), (.int 19 2330)⟩,
    ⟨PyData.keyHash P (Str.ofString "LESS"), (.str (Str.ofString "LESS") 2333), (.int 20 2332)⟩,
    ⟨PyData.keyHash P (Str.ofString "GREATER"), (.str (Str.ofString "GREATER") 2335), (.int 21 2334)⟩,
    ⟨PyData.keyHash P (Str.ofString "EQUAL"), (.str (Str.ofString "EQUAL") 2337), (.int 22 2336)⟩,
    ⟨PyData.keyHash P (Str.ofString "DOT"), (.str (Str.ofString "DOT") 2339), (.int 23 2338)⟩,
    ⟨PyData.keyHash P (Str.ofString "PERCENT"), (.str (Str.ofString "PERCENT") 2341), (.int 24 2340)⟩,
    ⟨PyData.keyHash P (Str.ofString "LBRACE"), (.str (Str.ofString "LBRACE") 2343), (.int 25 2342)⟩,
    ⟨PyData.keyHash P (Str.ofString "RBRACE"), (.str (Str.ofString "RBRACE") 2345), (.int 26 2344)⟩,
    ⟨PyData.keyHash P (Str.ofString "EQEQUAL"), (.str (Str.ofString "EQEQUAL") 2347), (.int 27 2346)⟩,
    ⟨PyData.keyHash P (Str.ofString "NOTEQUAL"), (.str (Str.ofString "NOTEQUAL") 2349), (.int 28 2348)⟩,
    ⟨PyData.keyHash P (Str.ofString "LESSEQUAL"), (.str (Str.ofString "LESSEQUAL") 2351), (.int 29 2350)⟩,
    ⟨PyData.keyHash P (Str.ofString "GREATEREQUAL"), (.str (Str.ofString "GREATEREQUAL") 2353), (.int 30 2352)⟩,
    ⟨PyData.keyHash P (Str.ofString "TILDE"), (.str (Str.ofString "TILDE") 2355), (.int 31 2354)⟩,
    ⟨PyData.keyHash P (Str.ofString "CIRCUMFLEX"), (.str (Str.ofString "CIRCUMFLEX") 2357), (.int 32 2356)⟩,
    ⟨PyData.keyHash P (Str.ofString "LEFTSHIFT"), (.str (Str.ofString "LEFTSHIFT") 2359), (.int 33 2358)⟩,
    ⟨PyData.keyHash P (Str.ofString "RIGHTSHIFT"), (.str (Str.ofString "RIGHTSHIFT") 2361), (.int 34 2360)⟩,
    ⟨PyData.keyHash P (Str.ofString "DOUBLESTAR"), (.str (Str.ofString "DOUBLESTAR") 2363), (.int 35 2362)⟩,
    ⟨PyData.keyHash P (Str.ofString "PLUSEQUAL"), (.str (Str.ofString "PLUSEQUAL") 2365), (.int 36 2364)⟩,
    ⟨PyData.keyHash P (Str.ofString "MINEQUAL"), (.str (Str.ofString "MINEQUAL") 2367), (.int 37 2366)⟩,
    ⟨PyData.keyHash P (Str.ofString "STAREQUAL"), (.str (Str.ofString "STAREQUAL") 2369), (.int 38 2368)⟩,
    ⟨PyData.keyHash P (Str.ofString "SLASHEQUAL"), (.str (Str.ofString "SLASHEQUAL") 2371), (.int 39 2370)⟩,
    ⟨PyData.keyHash P (Str.ofString "PERCENTEQUAL"), (.str (Str.ofString "PERCENTEQUAL") 2373), (.int 40 2372)⟩,
    ⟨PyData.keyHash P (Str.ofString "AMPEREQUAL"), (.str (Str.ofString "AMPEREQUAL") 2375), (.int 41 2374)⟩,
    ⟨PyData.keyHash P (Str.ofString "VBAREQUAL"), (.str (Str.ofString "VBAREQUAL") 2377), (.int 42 2376)⟩,
    ⟨PyData.keyHash P (Str.ofString "CIRCUMFLEXEQUAL"), (.str (Str.ofString "CIRCUMFLEXEQUAL") 2379), (.int 43 2378)⟩,
    ⟨PyData.keyHash P (Str.ofString "LEFTSHIFTEQUAL"), (.str (Str.ofString "LEFTSHIFTEQUAL") 2381), (.int 44 2380)⟩,
    ⟨PyData.keyHash P (Str.ofString "RIGHTSHIFTEQUAL"), (.str (Str.ofString "RIGHTSHIFTEQUAL") 2383), (.int 45 2382)⟩,
    ⟨PyData.keyHash P (Str.ofString "DOUBLESTAREQUAL"), (.str (Str.ofString "DOUBLESTAREQUAL") 2385), (.int 46 2384)⟩,
    ⟨PyData.keyHash P (Str.ofString "DOUBLESLASH"), (.str (Str.ofString "DOUBLESLASH") 2387), (.int 47 2386)⟩,
    ⟨PyData.keyHash P (Str.ofString "DOUBLESLASHEQUAL"), (.str (Str.ofString "DOUBLESLASHEQUAL") 2389), (.int 48 2388)⟩,
    ⟨PyData.keyHash P (Str.ofString "AT"), (.str (Str.ofString "AT") 2391), (.int 49 2390)⟩,
    ⟨PyData.keyHash P (Str.ofString "ATEQUAL"), (.str (Str.ofString "ATEQUAL") 2393), (.int 50 2392)⟩,
    ⟨PyData.keyHash P (Str.ofString "RARROW"), (.str (Str.ofString "RARROW") 2395), (.int 51 2394)⟩,
    ⟨PyData.keyHash P (Str.ofString "ELLIPSIS"), (.str (Str.ofString "ELLIPSIS") 2397), (.int 52 2396)⟩,
    ⟨PyData.keyHash P (Str.ofString "COLONEQUAL"), (.str (Str.ofString "COLONEQUAL") 2399), (.int 53 2398)⟩,
    ⟨PyData.keyHash P (Str.ofString "EXCLAMATION"), (.str (Str.ofString "EXCLAMATION") 2401), (.int 54 2400)⟩,
    ⟨PyData.keyHash P (Str.ofString "NT_OFFSET"), (.str (Str.ofString "NT_OFFSET") 2403), (.int 256 2402)⟩] 70), #[]⟩
noncomputable def o12x64 (P : Params) : Obj := ⟨.none, none, (.fields #[(.int 2 0), (.int 0 0), (.ref 20), (.int 25 0), (.int 0 0), (.ref 27), (.int 44 0), (.int 0 0), (.ref 34), (.int 67 0), (.int 0 0), (.ref 41), (.int 80 0), (.int 0 0), (.ref 48), (.int 98 0), (.int 0 0), (.ref 55), (.int 105 0), (.int 0 0), (.ref 73), (.int 108 0), (.int 0 0), (.ref 119)]), #[]⟩
noncomputable def o3x65 (P : Params) : Obj := ⟨(.type "dict"), none, (.dict #[⟨PyData.keyHash P (Str.ofString "__name__"), (.str (Str.ofString "__name__") 165), (.str (Str.ofString "cpy313.token") 2302)⟩,
    ⟨PyData.keyHash P (Str.ofString "__doc__"), (.str (Str.ofString "__doc__") 166), .none⟩,
    ⟨PyData.keyHash P (Str.ofString "__package__"), (.str (Str.ofString "__package__") 167), .none⟩,
    ⟨PyData.keyHash P (Str.ofString "__loader__"), (.str (Str.ofString "__loader__") 168), (.builtin "__main__.__loader__#opaque")⟩,
    ⟨PyData.keyHash P (Str.ofString "__spec__"), (.str (Str.ofString "__spec__") 169), .none⟩,
    ⟨PyData.keyHash P (Str.ofString "__annotations__"), (.str (Str.ofString "__annotations__") 170), (.ref 6)⟩,
    ⟨PyData.keyHash P (Str.ofString "__builtins__"), (.str (Str.ofString "__builtins__") 171), (.ref 4)⟩,
    ⟨PyData.keyHash P (Str.ofString "__file__"), (.str (Str.ofString "__file__") 173), (.str (Str.ofString "/claim/cut.py") 172)⟩,
    ⟨PyData.keyHash P (Str.ofString "__cached__"), (.str (Str.ofString "__cached__") 174), .none⟩,
    ⟨PyData.keyHash P (Str.ofString "rgb_to_hls"), (.str (Str.ofString "rgb_to_hls") 207), (.ref 21)⟩,
    ⟨PyData.keyHash P (Str.ofString "rgb_to_hsv"), (.str (Str.ofString "rgb_to_hsv") 225), (.ref 28)⟩,
    ⟨PyData.keyHash P (Str.ofString "hsv_to_rgb"), (.str (Str.ofString "hsv_to_rgb") 239), (.ref 35)⟩,
    ⟨PyData.keyHash P (Str.ofString "TICK"), (.str (Str.ofString "TICK") 243), (.str (Str.ofString "'") 242)⟩,
    ⟨PyData.keyHash P (Str.ofString "_iter_escaped_chars"), (.str (Str.ofString "_iter_escaped_chars") 253), (.ref 42)⟩,
    ⟨PyData.keyHash P (Str.ofString "_strip_quoted_realnames"), (.str (Str.ofString "_strip_quoted_realnames") 265), (.ref 49)⟩,
    ⟨PyData.keyHash P (Str.ofString "decode_rfc2231"), (.str (Str.ofString "decode_rfc2231") 273), (.ref 56)⟩,
    ⟨PyData.keyHash P (Str.ofString "b1_set"), (.str (Str.ofString "b1_set") 335), (.ref 64)⟩,
    ⟨PyData.keyHash P (Str.ofString "in_table_b1"), (.str (Str.ofString "in_table_b1") 342), (.ref 74)⟩,
    ⟨PyData.keyHash P (Str.ofString "b3_exceptions"), (.str (Str.ofString "b3_exceptions") 2293), (.ref 75)⟩,
    ⟨PyData.keyHash P (Str.ofString "map_table_b3"), (.str (Str.ofString "map_table_b3") 2301), (.ref 120)⟩,
    ⟨PyData.keyHash P (Str.ofString "ENDMARKER"), (.str (Str.ofString "ENDMARKER") 2305), (.int 0 2304)⟩,
    ⟨PyData.keyHash P (Str.ofString "LPAR"), (.str (Str.ofString "LPAR") 2307), (.int 7 2306)⟩,
    ⟨PyData.keyHash P (Str.ofString "RPAR"), (.str (Str.ofString "RPAR") 2309), (.int 8 2308)⟩,
    ⟨PyData.keyHash P (Str.ofString "LSQB"), (.str (Str.ofString "LSQB") 2311), (.int 9 2310)⟩,
    ⟨PyData.keyHash P (Str.ofString "RSQB"), (.str (Str.ofString "RSQB") 2313), (.int 10 2312)⟩,
    ⟨PyData.keyHash P (Str.ofString "COLON"), (.str (Str.ofString "COLON") 2315), (.int 11 2314)⟩,
    ⟨PyData.keyHash P (Str.ofString "COMMA"), (.str (Str.ofString "COMMA") 2317), (.int 12 2316)⟩,
    ⟨PyData.keyHash P (Str.ofString "SEMI"), (.str (Str.ofString "SEMI") 2319), (.int 13 2318)⟩,
    ⟨PyData.keyHash P (Str.ofString "PLUS"), (.str (Str.ofString "PLUS") 2321), (.int 14 2320)⟩,
    ⟨PyData.keyHash P (Str.ofString "MINUS"), (.str (Str.ofString "MINUS") 2323), (.int 15 2322)⟩,
    ⟨PyData.keyHash P (Str.ofString "STAR"), (.str (Str.ofString "STAR") 2325), (.int 16 2324)⟩,
    ⟨PyData.keyHash P (Str.ofString "SLASH"), (.str (Str.ofString "SLASH") 2327), (.int 17 2326)⟩,
    ⟨PyData.keyHash P (Str.ofString "VBAR"), (.str (Str.ofString "VBAR") 2329), (.int 18 2328)⟩,
    ⟨PyData.keyHash P (Str.ofString "AMPER"), (.str (Str.ofString "AMPER") 2331), (.int 19 2330)⟩,
    ⟨PyData.keyHash P (Str.ofString "LESS"), (.str (Str.ofString "LESS") 2333), (.int 20 2332)⟩,
    ⟨PyData.keyHash P (Str.ofString "GREATER"), (.str (Str.ofString "GREATER") 2335), (.int 21 2334)⟩,
    ⟨PyData.keyHash P (Str.ofString "EQUAL"), (.str (Str.ofString "EQUAL") 2337), (.int 22 2336)⟩,
    ⟨PyData.keyHash P (Str.ofString "DOT"), (.str (Str.ofString "DOT") 2339), (.int 23 2338)⟩,
    ⟨PyData.keyHash P (Str.ofString "PERCENT"), (.str (Str.ofString "PERCENT") 2341), (.int 24 2340)⟩,
    ⟨PyData.keyHash P (Str.ofString "LBRACE"), (.str (Str.ofString "LBRACE") 2343), (.int 25 2342)⟩,
    ⟨PyData.keyHash P (Str.ofString "RBRACE"), (.str (Str.ofString "RBRACE") 2345), (.int 26 2344)⟩,
    ⟨PyData.keyHash P (Str.ofString "EQEQUAL"), (.str (Str.ofString "EQEQUAL") 2347), (.int 27 2346)⟩,
    ⟨PyData.keyHash P (Str.ofString "NOTEQUAL"), (.str (Str.ofString "NOTEQUAL") 2349), (.int 28 2348)⟩,
    ⟨PyData.keyHash P (Str.ofString "LESSEQUAL"), (.str (Str.ofString "LESSEQUAL") 2351), (.int 29 2350)⟩,
    ⟨PyData.keyHash P (Str.ofString "GREATEREQUAL"), (.str (Str.ofString "GREATEREQUAL") 2353), (.int 30 2352)⟩,
    ⟨PyData.keyHash P (Str.ofString "TILDE"), (.str (Str.ofString "TILDE") 2355), (.int 31 2354)⟩,
    ⟨PyData.keyHash P (Str.ofString "CIRCUMFLEX"), (.str (Str.ofString "CIRCUMFLEX") 2357), (.int 32 2356)⟩,
    ⟨PyData.keyHash P (Str.ofString "LEFTSHIFT"), (.str (Str.ofString "LEFTSHIFT") 2359), (.int 33 2358)⟩,
    ⟨PyData.keyHash P (Str.ofString "RIGHTSHIFT"), (.str (Str.ofString "RIGHTSHIFT") 2361), (.int 34 2360)⟩,
    ⟨PyData.keyHash P (Str.ofString "DOUBLESTAR"), (.str (Str.ofString "DOUBLESTAR") 2363), (.int 35 2362)⟩,
    ⟨PyData.keyHash P (Str.ofString "PLUSEQUAL"), (.str (Str.ofString "PLUSEQUAL") 2365), (.int 36 2364)⟩,
    ⟨PyData.keyHash P (Str.ofString "MINEQUAL"), (.str (Str.ofString "MINEQUAL") 2367), (.int 37 2366)⟩,
    ⟨PyData.keyHash P (Str.ofString "STAREQUAL"), (.str (Str.ofString "STAREQUAL") 2369), (.int 38 2368)⟩,
    ⟨PyData.keyHash P (Str.ofString "SLASHEQUAL"), (.str (Str.ofString "SLASHEQUAL") 2371), (.int 39 2370)⟩,
    ⟨PyData.keyHash P (Str.ofString "PERCENTEQUAL"), (.str (Str.ofString "PERCENTEQUAL") 2373), (.int 40 2372)⟩,
    ⟨PyData.keyHash P (Str.ofString "AMPEREQUAL"), (.str (Str.ofString "AMPEREQUAL") 2375), (.int 41 2374)⟩,
    ⟨PyData.keyHash P (Str.ofString "VBAREQUAL"), (.str (Str.ofString "VBAREQUAL") 2377), (.int 42 2376)⟩,
    ⟨PyData.keyHash P (Str.ofString "CIRCUMFLEXEQUAL"), (.str (Str.ofString "CIRCUMFLEXEQUAL") 2379), (.int 43 2378)⟩,
    ⟨PyData.keyHash P (Str.ofString "LEFTSHIFTEQUAL"), (.str (Str.ofString "LEFTSHIFTEQUAL") 2381), (.int 44 2380)⟩,
    ⟨PyData.keyHash P (Str.ofString "RIGHTSHIFTEQUAL"), (.str (Str.ofString "RIGHTSHIFTEQUAL") 2383), (.int 45 2382)⟩,
    ⟨PyData.keyHash P (Str.ofString "DOUBLESTAREQUAL"), (.str (Str.ofString "DOUBLESTAREQUAL") 2385), (.int 46 2384)⟩,
    ⟨PyData.keyHash P (Str.ofString "DOUBLESLASH"), (.str (Str.ofString "DOUBLESLASH") 2387), (.int 47 2386)⟩,
    ⟨PyData.keyHash P (Str.ofString "DOUBLESLASHEQUAL"), (.str (Str.ofString "DOUBLESLASHEQUAL") 2389), (.int 48 2388)⟩,
    ⟨PyData.keyHash P (Str.ofString "AT"), (.str (Str.ofString "AT") 2391), (.int 49 2390)⟩,
    ⟨PyData.keyHash P (Str.ofString "ATEQUAL"), (.str (Str.ofString "ATEQUAL") 2393), (.int 50 2392)⟩,
    ⟨PyData.keyHash P (Str.ofString "RARROW"), (.str (Str.ofString "RARROW") 2395), (.int 51 2394)⟩,
    ⟨PyData.keyHash P (Str.ofString "ELLIPSIS"), (.str (Str.ofString "ELLIPSIS") 2397), (.int 52 2396)⟩,
    ⟨PyData.keyHash P (Str.ofString "COLONEQUAL"), (.str (Str.ofString "COLONEQUAL") 2399), (.int 53 2398)⟩,
    ⟨PyData.keyHash P (Str.ofString "EXCLAMATION"), (.str (Str.ofString "EXCLAMATION") 2401), (.int 54 2400)⟩,
    ⟨PyData.keyHash P (Str.ofString "NT_OFFSET"), (.str (Str.ofString "NT_OFFSET") 2403), (.int 256 2402)⟩,
    ⟨PyData.keyHash P (Str.ofString "EXACT_TOKEN_TYPES"), (.str (Str.ofString "EXACT_TOKEN_TYPES") 2500), (.ref 121)⟩] 71), #[]⟩
@[irreducible] noncomputable def T64 (P : Params) : BT := insAll [o114 P, o115 P, o116 P, o117 P, o118 P, o119 P, o120 P] 114 (((T13 P).set 3 (fun _ => o3x64 P)).set 12 (fun _ => o12x64 P))
@[irreducible] noncomputable def T65 (P : Params) : BT := insAll [o121 P, o122 P, o123 P] 121 ((T64 P).set 3 (fun _ => o3x65 P))
@[irreducible] noncomputable def T77 (P : Params) : BT := insAll [o124 P, o125 P, o126 P, o127 P, o128 P, o129 P, o130 P, o131 P, o132 P, o133 P, o134 P, o135 P, o136 P, o137 P, o138 P, o139 P, o140 P, o141 P, o142 P, o143 P, o144 P, o145 P, o146 P, o147 P, o148 P, o149 P, o150 P, o151 P, o152 P, o153 P, o154 P, o155 P, o156 P, o157 P, o158 P, o159 P, o160 P, o161 P, o162 P, o163 P, o164 P, o165 P, o166 P, o167 P, o168 P, o169 P, o170 P, o171 P, o172 P, o173 P, o174 P, o175 P, o176 P, o177 P, o178 P, o179 P, o180 P, o181 P, o182 P, o183 P, o184 P, o185 P, o186 P, o187 P] 124 (((T65 P).set 3 (fun _ => o3 P)).set 12 (fun _ => o12 P))
noncomputable def segA (w : World) (os : OsState) (pos : Pos) : Option (Flow × SharedT × Code × Pos) := segRunT treeTable PW w 11 annF 1 520 (stT (T13 w.params) 114 2294 os) (piecesOf ((bAll.drop 13).take 52) env1 cdAll pos B0)
noncomputable def resA (w : World) (os : OsState) (pos : Pos) : Option (Flow × SharedT × Code × Pos) := some (.next, stT (T64 w.params) 121 2404 os, cdAll, ⟨163, 0, 163, 9⟩)
noncomputable def segB (w : World) (os : OsState) : Option (Flow × SharedT × Code × Pos) := segRunT treeTable PW w 11 annF 1 1000 (stT (T64 w.params) 121 2404 os) (piecesOf ((bAll.drop 65).take 1) env1 cdAll ⟨163, 0, 163, 9⟩ B0)
noncomputable def resB (w : World) (os : OsState) : Option (Flow × SharedT × Code × Pos) := some (.next, stT (T65 w.params) 124 2501 os, cdAll, ⟨164, 0, 164, 17⟩)
noncomputable def segC (w : World) (os : OsState) : Option (Flow × SharedT × Code × Pos) := segRunT treeTable PW w 11 annF 1 400 (stT (T65 w.params) 124 2501 os) (piecesOf (bAll.drop 66) env1 cdAll ⟨164, 0, 164, 17⟩ B0)
noncomputable def resC (w : World) (os : OsState) : Option (Flow × SharedT × Code × Pos) := some (.next, stT (T77 w.params) 188 2581 os, cdAll, ⟨237, 0, 268, 99⟩)
theorem segA_is : segA = resA := by
  funext w
  kernel_rfl
theorem segC_is : segC = resC := by
  funext w
  kernel_rfl
theorem segB_f (w : World) : segB (w.withFollow "special-get-raises" false) = resB (w.withFollow "special-get-raises" false) := by kernel_rfl
theorem segB_t (w : World) : segB (w.withFollow "special-get-raises" true) = resB (w.withFollow "special-get-raises" true) := by kernel_rfl
theorem segB_is : segB = resB := by
  funext w
  exact byRow2 "special-get-raises" (P := fun w => segB w = resB w) segB_f segB_t w
end Mine
end
section
set_option Elab.async false
set_option maxRecDepth 100000
set_option maxHeartbeats 400000
set_option linter.unusedVariables false
namespace Mine
open PySem PySem.W PyProof.Rows
-- the run of the whole top
noncomputable abbrev SB (w : World) (os : OsState) : SharedT := { tree := T4 w.params, n := 15, life := { }, gens := { toList := [] }, drawn := { }, toks := 187, os := os }
noncomputable abbrev S0 (w : World) (os : OsState) : Shared := ⟨boot_heap w.params, Array.mk [], boot_drawn, boot_toks, os⟩
noncomputable def preL (w : World) (os : OsState) : Option (Shared × Thread) := topGo treeTable PW w 11 annF 12 (S0 w os) (topStub PW)
noncomputable def preR (w : World) (os : OsState) : Option (Shared × Thread) := some ((SB w os).abs, ⟨denote treeTable cdAll, cdAll, q0, B0⟩)
theorem pre_is : preL = preR := by
  funext w
  kernel_rfl
theorem block_is (w : World) (os : OsState) : segRun treeTable PW w 11 annF 1 1 (SB w os).abs (blockOf bAll env1 cdAll q0 B0) = some (.next, (SB w os).abs, cdAll, q0) := by kernel_rfl
theorem parts_is : bAll = bAll.take 10 ++ ((bAll.drop 10).take 1 ++ ((bAll.drop 11).take 1 ++ (sts12 ++ ((bAll.drop 13).take 52 ++ ((bAll.drop 65).take 1 ++ (bAll.drop 66 ++ [])))))) := by kernel_rfl
theorem fin_is (w : World) (os : OsState) : topRun treeTable PW w 11 annF 2 (stT (T77 w.params) 188 2581 os).abs ⟨doneF .next, cdAll, ⟨237, 0, 268, 99⟩, B0⟩ = some (stT (T77 w.params) 188 2581 os).abs := by kernel_rfl

noncomputable abbrev topW (w : World) (N : Nat) (s : Shared) (l : List Stmt) (pos : Pos) (r : Shared) : Prop := topRun treeTable PW w 11 annF N s (restOf l env1 cdAll pos B0) = some r
theorem step_seg {w : World} {os : OsState} {n N : Nat} {s s' : SharedT} {r : Shared} {l rest : List Stmt} {pos pos' : Pos} (h : segRunT treeTable PW w 11 annF 1 n s (piecesOf l env1 cdAll pos B0) = some (.next, s', cdAll, pos'))
    (k : topW w N s'.abs rest pos' r) : topW w (n + N) s.abs (l ++ rest) pos r := piece_app (segRun_of h) k
theorem runC (w : World) (os : OsState) : topW w (400 + 2) (stT (T65 w.params) 124 2501 os).abs (bAll.drop 66 ++ []) ⟨164, 0, 164, 17⟩ (stT (T77 w.params) 188 2581 os).abs := by
  have h := congrFun (congrFun segC_is w) os
  unfold segC resC at h
  exact step_seg (os := os) h (piece_nil (fin_is w os))
theorem runB (w : World) (os : OsState) : topW w (1000 + (400 + 2)) (stT (T64 w.params) 121 2404 os).abs ((bAll.drop 65).take 1 ++ (bAll.drop 66 ++ [])) ⟨163, 0, 163, 9⟩ (stT (T77 w.params) 188 2581 os).abs := by
  have h := congrFun (congrFun segB_is w) os
  unfold segB resB at h
  exact step_seg (os := os) h (runC w os)
theorem runA (w : World) (os : OsState) (pos : Pos) : topW w (520 + (1000 + (400 + 2))) (stT (T13 w.params) 114 2294 os).abs ((bAll.drop 13).take 52 ++ ((bAll.drop 65).take 1 ++ (bAll.drop 66 ++ []))) pos (stT (T77 w.params) 188 2581 os).abs := by
  have h := congrFun (congrFun (congrFun segA_is w) os) pos
  unfold segA resA at h
  exact step_seg (os := os) h (runB w os)
theorem run12' (w : World) (os : OsState) (pos : Pos) : topW w (12525 + (520 + (1000 + (400 + 2)))) (stT (T12 w.params) 75 343 os).abs (sts12 ++ ((bAll.drop 13).take 52 ++ ((bAll.drop 65).take 1 ++ (bAll.drop 66 ++ [])))) pos (stT (T77 w.params) 188 2581 os).abs := by
  obtain ⟨pos', h⟩ := run12 w os pos
  exact piece_app h (runA w os pos')
theorem run11 (w : World) (os : OsState) : topW w (30 + (12525 + (520 + (1000 + (400 + 2))))) (stT (T11 w.params) 68 336 os).abs ((bAll.drop 11).take 1 ++ (sts12 ++ ((bAll.drop 13).take 52 ++ ((bAll.drop 65).take 1 ++ (bAll.drop 66 ++ []))))) ⟨104, 0, 104, 6⟩ (stT (T77 w.params) 188 2581 os).abs := by
  have h := congrFun (congrFun seg11_is w) os
  unfold seg11 res11 at h
  exact step_seg (os := os) h (run12' w os _)
theorem run10 (w : World) (os : OsState) : topW w (999 + (30 + (12525 + (520 + (1000 + (400 + 2)))))) (stT (T10 w.params) 57 276 os).abs ((bAll.drop 10).take 1 ++ ((bAll.drop 11).take 1 ++ (sts12 ++ ((bAll.drop 13).take 52 ++ ((bAll.drop 65).take 1 ++ (bAll.drop 66 ++ [])))))) ⟨103, 0, 103, 8⟩ (stT (T77 w.params) 188 2581 os).abs := by
  have h := congrFun (congrFun seg10_is w) os
  unfold seg10 res10 at h
  exact step_seg (os := os) h (run11 w os)
theorem run9 (w : World) (os : OsState) : topW w (Nat.add 250 (999 + (30 + (12525 + (520 + (1000 + (400 + 2))))))) (SB w os).abs bAll q0 (stT (T77 w.params) 188 2581 os).abs := by
  have h := congrFun (congrFun seg0_is w) os
  unfold seg0 res0 at h
  have k := run10 w os
  have q := step_seg (os := os) h k
  unfold topW
  rw [parts_is]
  exact q
theorem run_all (w : World) (os : OsState) : topRun treeTable PW w 11 annF (12 + (1 + Nat.add 250 (999 + (30 + (12525 + (520 + (1000 + (400 + 2)))))))) (S0 w os) (topStub PW) = some (stT (T77 w.params) 188 2581 os).abs := by
  have h := congrFun (congrFun pre_is w) os
  unfold preL preR at h
  exact go_top h (piece_block (block_is w os) (run9 w os))
end Mine
end
section
set_option Elab.async false
set_option maxRecDepth 100000
set_option maxHeartbeats 0
set_option linter.unusedVariables false
namespace Mine
open PySem PySem.W PyProof.Rows
noncomputable def o75 (P : Params) : Obj := dictO (dEnd P).es.toArray (dEnd P).ep
noncomputable def KF (P : Params) : Frag := (nat_lit 2, o2 P) :: (nat_lit 3, o3 P) :: (nat_lit 15, o15 P) :: (nat_lit 17, o17 P) :: (nat_lit 18, o18 P) :: (nat_lit 20, o20 P) :: (nat_lit 21, o21 P) :: (nat_lit 22, o22 P) :: (nat_lit 24, o24 P) :: (nat_lit 25, o25 P) :: (nat_lit 27, o27 P) :: (nat_lit 28, o28 P) :: (nat_lit 29, o29 P) :: (nat_lit 31, o31 P) :: (nat_lit 32, o32 P) :: (nat_lit 34, o34 P) :: (nat_lit 35, o35 P) :: (nat_lit 36, o36 P) :: (nat_lit 38, o38 P) :: (nat_lit 39, o39 P) :: (nat_lit 41, o41 P) :: (nat_lit 42, o42 P) :: (nat_lit 43, o43 P) :: (nat_lit 45, o45 P) :: (nat_lit 46, o46 P) :: (nat_lit 48, o48 P) :: (nat_lit 49, o49 P) :: (nat_lit 50, o50 P) :: (nat_lit 52, o52 P) :: (nat_lit 53, o53 P) :: (nat_lit 55, o55 P) :: (nat_lit 56, o56 P) :: (nat_lit 64, o64 P) :: (nat_lit 68, o68 P) :: (nat_lit 70, o70 P) :: (nat_lit 71, o71 P) :: (nat_lit 73, o73 P) :: (nat_lit 74, o74 P) :: (nat_lit 75, o75 P) :: (nat_lit 114, o114 P) :: (nat_lit 116, o116 P) :: (nat_lit 117, o117 P) :: (nat_lit 119, o119 P) :: (nat_lit 120, o120 P) :: (nat_lit 121, o121 P) :: (nat_lit 124, o124 P) :: (nat_lit 126, o126 P) :: (nat_lit 127, o127 P) :: (nat_lit 129, o129 P) :: (nat_lit 130, o130 P) :: (nat_lit 131, o131 P) :: (nat_lit 133, o133 P) :: (nat_lit 134, o134 P) :: (nat_lit 136, o136 P) :: (nat_lit 137, o137 P) :: (nat_lit 138, o138 P) :: (nat_lit 141, o141 P) :: (nat_lit 142, o142 P) :: (nat_lit 143, o143 P) :: (nat_lit 145, o145 P) :: (nat_lit 146, o146 P) :: (nat_lit 148, o148 P) :: (nat_lit 149, o149 P) :: (nat_lit 150, o150 P) :: (nat_lit 152, o152 P) :: (nat_lit 153, o153 P) :: (nat_lit 155, o155 P) :: (nat_lit 156, o156 P) :: (nat_lit 157, o157 P) :: (nat_lit 159, o159 P) :: (nat_lit 160, o160 P) :: (nat_lit 162, o162 P) :: (nat_lit 163, o163 P) :: (nat_lit 164, o164 P) :: (nat_lit 166, o166 P) :: (nat_lit 167, o167 P) :: (nat_lit 169, o169 P) :: (nat_lit 170, o170 P) :: (nat_lit 171, o171 P) :: (nat_lit 174, o174 P) :: (nat_lit 175, o175 P) :: (nat_lit 176, o176 P) :: (nat_lit 178, o178 P) :: (nat_lit 179, o179 P) :: (nat_lit 181, o181 P) :: (nat_lit 182, o182 P) :: (nat_lit 183, o183 P) :: (nat_lit 186, o186 P) :: (nat_lit 187, o187 P) :: []
noncomputable def asF : List Nat := [nat_lit 2, nat_lit 3, nat_lit 15, nat_lit 17, nat_lit 18, nat_lit 20, nat_lit 21, nat_lit 22, nat_lit 24, nat_lit 25, nat_lit 27, nat_lit 28, nat_lit 29, nat_lit 31, nat_lit 32, nat_lit 34, nat_lit 35, nat_lit 36, nat_lit 38, nat_lit 39, nat_lit 41, nat_lit 42, nat_lit 43, nat_lit 45, nat_lit 46, nat_lit 48, nat_lit 49, nat_lit 50, nat_lit 52, nat_lit 53, nat_lit 55, nat_lit 56, nat_lit 64, nat_lit 68, nat_lit 70, nat_lit 71, nat_lit 73, nat_lit 74, nat_lit 75, nat_lit 114, nat_lit 116, nat_lit 117, nat_lit 119, nat_lit 120, nat_lit 121, nat_lit 124, nat_lit 126, nat_lit 127, nat_lit 129, nat_lit 130, nat_lit 131, nat_lit 133, nat_lit 134, nat_lit 136, nat_lit 137, nat_lit 138, nat_lit 141, nat_lit 142, nat_lit 143, nat_lit 145, nat_lit 146, nat_lit 148, nat_lit 149, nat_lit 150, nat_lit 152, nat_lit 153, nat_lit 155, nat_lit 156, nat_lit 157, nat_lit 159, nat_lit 160, nat_lit 162, nat_lit 163, nat_lit 164, nat_lit 166, nat_lit 167, nat_lit 169, nat_lit 170, nat_lit 171, nat_lit 174, nat_lit 175, nat_lit 176, nat_lit 178, nat_lit 179, nat_lit 181, nat_lit 182, nat_lit 183, nat_lit 186, nat_lit 187]
theorem asF_eq : ∀ P, asF = (KF P).map (·.1) := fun _ => by kernel_rfl
noncomputable def keepIdx : List Nat := [1, 2, 3, 5, 6, 7, 8, 10, 11, 13, 15, 16, 17, 18, 19, 20, 21, 22, 23, 24, 25, 26, 27, 28, 29, 30, 31, 32, 33, 34, 35, 36, 37, 38, 39, 40, 41, 42, 43, 44, 45, 46, 47, 48, 49, 50, 51, 52, 53, 54, 55, 56, 57, 58, 59, 60, 61, 62, 63, 64, 65, 66, 67, 69, 70, 71, 72, 73, 74, 75, 76]
noncomputable abbrev QV : Program := view PW keepIdx
noncomputable abbrev LO : List Str := [Str.ofString "b1_set", Str.ofString "b3_exceptions", Str.ofString "EXACT_TOKEN_TYPES"]
noncomputable abbrev XTF : Shared → Bool := fun s => xlAt QV [] s && recOk (RowW.records (OpenRow.toRowW (OpenLaw.row PySem.Challenge.rw_wf0099_01))) s
noncomputable def S77 (w : World) (os : OsState) : Shared := (stT (T77 w.params) 188 2581 os).abs
noncomputable def H77 (P : Params) : Heap := absHeap (T77 P) 188 {}
noncomputable def lkA (w : World) (os : OsState) : Bool := staticsOk (importedModules PW.main.body) (boot_heap w.params) (H77 w.params) && namesBound PW (H77 w.params) && gensDone (S77 w os) && laidKept (boot_heap w.params) (H77 w.params)
noncomputable def lkAR (w : World) (os : OsState) : Bool := true
noncomputable def lkY (w : World) (os : OsState) : List (Option Obj) := asF.map (H77 w.params).get?
noncomputable def lkYR (w : World) (os : OsState) : List (Option Obj) := (KF w.params).map fun p => some p.2
theorem lkA_is : lkA = lkAR := by
  funext w
  kernel_rfl
theorem lkY_is : lkY = lkYR := by
  funext w
  kernel_rfl
end Mine
end
section
set_option Elab.async false
set_option maxRecDepth 100000
set_option maxHeartbeats 0
set_option linter.unusedVariables false
namespace Mine
open PySem PySem.W PyProof.Rows
noncomputable def hL (P : Params) : List Obj := [boot_o_0 P, boot_o_1 P, o2 P, o3 P, boot_o_4 P, boot_o_5 P, boot_o_6 P, boot_o_7 P, boot_o_8 P, boot_o_9 P, boot_o_10 P, o11 P, o12 P, o13 P, o14 P, o15 P, o16 P, o17 P, o18 P, o19 P, o20 P, o21 P, o22 P, o23 P, o24 P, o25 P, o26 P, o27 P, o28 P, o29 P, o30 P, o31 P, o32 P, o33 P, o34 P, o35 P, o36 P, o37 P, o38 P, o39 P, o40 P, o41 P, o42 P, o43 P, o44 P, o45 P, o46 P, o47 P, o48 P, o49 P, o50 P, o51 P, o52 P, o53 P, o54 P, o55 P, o56 P, o57 P, o58 P, o59 P, o60 P, o61 P, o62 P, o63 P, o64 P, o65 P, o66 P, o67 P, o68 P, o69 P, o70 P, o71 P, o72 P, o73 P, o74 P, o75 P, (((dEnd P).s.tree.get 76).getD default), (((dEnd P).s.tree.get 77).getD default), (((dEnd P).s.tree.get 78).getD default), (((dEnd P).s.tree.get 79).getD default), (((dEnd P).s.tree.get 80).getD default), (((dEnd P).s.tree.get 81).getD default), (((dEnd P).s.tree.get 82).getD default), (((dEnd P).s.tree.get 83).getD default), (((dEnd P).s.tree.get 84).getD default), (((dEnd P).s.tree.get 85).getD default), (((dEnd P).s.tree.get 86).getD default), (((dEnd P).s.tree.get 87).getD default), (((dEnd P).s.tree.get 88).getD default), (((dEnd P).s.tree.get 89).getD default), (((dEnd P).s.tree.get 90).getD default), (((dEnd P).s.tree.get 91).getD default), (((dEnd P).s.tree.get 92).getD default), (((dEnd P).s.tree.get 93).getD default), (((dEnd P).s.tree.get 94).getD default), (((dEnd P).s.tree.get 95).getD default), (((dEnd P).s.tree.get 96).getD default), (((dEnd P).s.tree.get 97).getD default), (((dEnd P).s.tree.get 98).getD default), (((dEnd P).s.tree.get 99).getD default), (((dEnd P).s.tree.get 100).getD default), (((dEnd P).s.tree.get 101).getD default), (((dEnd P).s.tree.get 102).getD default), (((dEnd P).s.tree.get 103).getD default), (((dEnd P).s.tree.get 104).getD default), (((dEnd P).s.tree.get 105).getD default), (((dEnd P).s.tree.get 106).getD default), (((dEnd P).s.tree.get 107).getD default), (((dEnd P).s.tree.get 108).getD default), (((dEnd P).s.tree.get 109).getD default), (((dEnd P).s.tree.get 110).getD default), (((dEnd P).s.tree.get 111).getD default), (((dEnd P).s.tree.get 112).getD default), (((dEnd P).s.tree.get 113).getD default), o114 P, o115 P, o116 P, o117 P, o118 P, o119 P, o120 P, o121 P, o122 P, o123 P, o124 P, o125 P, o126 P, o127 P, o128 P, o129 P, o130 P, o131 P, o132 P, o133 P, o134 P, o135 P, o136 P, o137 P, o138 P, o139 P, o140 P, o141 P, o142 P, o143 P, o144 P, o145 P, o146 P, o147 P, o148 P, o149 P, o150 P, o151 P, o152 P, o153 P, o154 P, o155 P, o156 P, o157 P, o158 P, o159 P, o160 P, o161 P, o162 P, o163 P, o164 P, o165 P, o166 P, o167 P, o168 P, o169 P, o170 P, o171 P, o172 P, o173 P, o174 P, o175 P, o176 P, o177 P, o178 P, o179 P, o180 P, o181 P, o182 P, o183 P, o184 P, o185 P, o186 P, o187 P]
noncomputable def H77L (P : Params) : Heap := ⟨(hL P).toArray, {}⟩
noncomputable def S77L (w : World) (os : OsState) : Shared := ⟨H77L w.params, #[], {}, 2581, os⟩
noncomputable def heapA (w : World) (os : OsState) : Shared := (stT (T77 w.params) 188 2581 os).abs
theorem heapA_is : heapA = S77L := by
  funext w
  kernel_rfl
noncomputable def c1L (w : World) (os : OsState) := seen ((recsOf QV).map (·.name)) (ownsOf QV) [] { S77L w os with gens := #[] }
noncomputable def c1R (w : World) (os : OsState) := expectedOf QV
theorem c1_is : c1L = c1R := by
  funext w
  kernel_rfl
noncomputable def c2L (w : World) (os : OsState) := (S77L w os).heap.bltView
noncomputable def c2R (w : World) (os : OsState) := bltViewBooted
theorem c2_is : c2L = c2R := by
  funext w
  kernel_rfl
noncomputable def c3aL (w : World) (os : OsState) := (S77L w os).heap.keysOk (looseW QV LO) ((recsOf QV).map (·.name)) ((litsOf QV).map (·.1)) ((clssOf QV (looseW QV LO)).map (·.name))
noncomputable def c3aR (w : World) (os : OsState) := true
theorem c3a_is : c3aL = c3aR := by
  funext w
  kernel_rfl
noncomputable def c3bL (w : World) (os : OsState) := (S77L w os).heap.accountedOkI (importedModules PW.main.body) && (S77L w os).heap.isNs mainGlobals && (S77L w os).heap.isNs builtinsNs
noncomputable def c3bR (w : World) (os : OsState) := true
theorem c3b_is : c3bL = c3bR := by
  funext w
  kernel_rfl
noncomputable def c3cL (w : World) (os : OsState) := tablesOk QV (S77L w os).heap
noncomputable def c3cR (w : World) (os : OsState) := true
theorem c3c_is : c3cL = c3cR := by
  funext w
  kernel_rfl
noncomputable def c3dL (w : World) (os : OsState) := XTF (S77L w os)
noncomputable def c3dR (w : World) (os : OsState) := true
theorem c3d_is : c3dL = c3dR := by
  funext w
  kernel_rfl
noncomputable def c3eL (w : World) (os : OsState) := (S77L w os).gens.size == 0
noncomputable def c3eR (w : World) (os : OsState) := true
theorem c3e_is : c3eL = c3eR := by
  funext w
  kernel_rfl
noncomputable def c4L (w : World) (os : OsState) := tabsOk QV (S77L w os)
noncomputable def c4R (w : World) (os : OsState) := true
theorem c4_is : c4L = c4R := by
  funext w
  kernel_rfl
noncomputable def c5L (w : World) (os : OsState) := pinSeenD QV (drecsOf QV) (S77L w os)
noncomputable def c5R (w : World) (os : OsState) := pinGoodD (drecsOf QV)
theorem c5_is : c5L = c5R := by
  funext w
  kernel_rfl
noncomputable def c6L (w : World) (os : OsState) := plainSeenE QV (looseW QV LO) (S77L w os)
noncomputable def c6R (w : World) (os : OsState) := plainGoodE QV (looseW QV LO)
theorem c6_is : c6L = c6R := by
  funext w
  kernel_rfl
noncomputable def c7L (w : World) (os : OsState) := plainSeenD QV LO (S77L w os)
noncomputable def c7R (w : World) (os : OsState) := plainGoodD QV LO
theorem c7_is : c7L = c7R := by
  funext w
  kernel_rfl
noncomputable def c8L (w : World) (os : OsState) := wideSeen QV (S77L w os)
noncomputable def c8R (w : World) (os : OsState) := wideGood QV
theorem c8_is : c8L = c8R := by
  funext w
  kernel_rfl
noncomputable def c9L (w : World) (os : OsState) := clsSeenW QV LO (S77L w os)
noncomputable def c9R (w : World) (os : OsState) := clsGoodW QV LO
theorem c9_is : c9L = c9R := by
  funext w
  kernel_rfl

theorem openSeen_of {q : Program} {loose mods : List Str} {Xt : Shared → Bool} {s : Shared} (b1 : seen ((recsOf q).map (·.name)) (ownsOf q) [] { s with gens := #[] } = expectedOf q) (b2 : s.heap.bltView = bltViewBooted)
    (b3 : (s.heap.keysOk (looseW q loose) ((recsOf q).map (·.name)) ((litsOf q).map (·.1)) ((clssOf q (looseW q loose)).map (·.name))) = true) (b3b : (s.heap.accountedOkI mods && s.heap.isNs mainGlobals && s.heap.isNs builtinsNs) = true) (b3c : tablesOk q s.heap = true) (b3d : Xt s = true) (b3e : (s.gens.size == 0) = true)
    (b4 : tabsOk q s = true) (b5 : pinSeenD q (drecsOf q) s = pinGoodD (drecsOf q)) (b6 : plainSeenE q (looseW q loose) s = plainGoodE q (looseW q loose)) (b7 : plainSeenD q loose s = plainGoodD q loose) (b8 : wideSeen q s = wideGood q) (b9 : clsSeenW q loose s = clsGoodW q loose) :
    openSeen q loose mods Xt true s = openGood q loose := by
  simp only [Bool.and_eq_true] at b3b
  unfold openSeen openGood
  rw [b1, b2, b4, b5, b6, b7, b8, b9, b3, b3b.1.1, b3b.1.2, b3b.2, b3c, b3d]
  simp only [if_true, b3e, Bool.and_true]
theorem looks_is (w : World) : (fun os => ((staticsOk (importedModules PW.main.body) (boot_heap w.params) (H77L w.params) && namesBound PW (H77L w.params) && gensDone ⟨H77L w.params, #[], {}, 2581, os⟩ && laidKept (boot_heap w.params) (H77L w.params)),
        openSeen QV LO (importedModules PW.main.body) XTF true ⟨H77L w.params, #[], {}, 2581, os⟩, (kHook KF asF asF_eq).obs ⟨H77L w.params, #[], {}, 2581, os⟩)) = fun _ => (true, openGood QV LO, (kHook KF asF asF_eq).val w) := by
  funext os
  have hh : S77 w os = ⟨H77L w.params, #[], {}, 2581, os⟩ := congrFun (congrFun heapA_is w) os
  have hH : H77 w.params = H77L w.params := congrArg Shared.heap hh
  have a0 : lkA w os = true := congrFun (congrFun lkA_is w) os
  have y0 : lkY w os = lkYR w os := congrFun (congrFun lkY_is w) os
  unfold lkA at a0
  unfold lkY at y0
  rw [hH, hh] at a0
  rw [hH] at y0
  have b1 := congrFun (congrFun c1_is w) os
  have b2 := congrFun (congrFun c2_is w) os
  have b3a := congrFun (congrFun c3a_is w) os
  have b3b := congrFun (congrFun c3b_is w) os
  have b3c := congrFun (congrFun c3c_is w) os
  have b3d := congrFun (congrFun c3d_is w) os
  have b3e := congrFun (congrFun c3e_is w) os
  have b4 := congrFun (congrFun c4_is w) os
  have b5 := congrFun (congrFun c5_is w) os
  have b6 := congrFun (congrFun c6_is w) os
  have b7 := congrFun (congrFun c7_is w) os
  have b8 := congrFun (congrFun c8_is w) os
  have b9 := congrFun (congrFun c9_is w) os
  unfold c1L c1R S77L at b1
  unfold c2L c2R S77L at b2
  unfold c3aL c3aR S77L at b3a
  unfold c3bL c3bR S77L at b3b
  unfold c3cL c3cR S77L at b3c
  unfold c3dL c3dR S77L at b3d
  unfold c3eL c3eR S77L at b3e
  unfold c4L c4R S77L at b4
  unfold c5L c5R S77L at b5
  unfold c6L c6R S77L at b6
  unfold c7L c7R S77L at b7
  unfold c8L c8R S77L at b8
  unfold c9L c9R S77L at b9
  exact Prod.ext a0 (Prod.ext (openSeen_of b1 b2 b3a b3b b3c b3d b3e b4 b5 b6 b7 b8 b9) y0)
theorem bodies_plain : opening PW = plainProg PW.main.scope.names := by rfl
theorem fence_plain : ∀ s, fenceModules? PW s = some s := fun s => by rfl
theorem size_is (w : World) : ((boot_heap w.params).isNs mainGlobals && (#[] : Array GenState).size == 0, (boot_heap w.params).objs.size, (boot_heap w.params).nsMap mainGlobals "__annotations__") = (true, 11, annF) := by kernel_rfl
theorem left : LeftO PW QV LO XTF (kHook KF asF asF_eq).obs (kHook KF asF asF_eq).val 31262 := by
  refine LeftO.of_pieces (p := PW) (H₀ := boot_heap) (H₁ := H77L) (gs₀ := #[]) (gs₁ := #[]) (d₀ := boot_drawn) (d₁ := {}) (k₀ := boot_toks) (k₁ := 2581) (m₀ := 11) (ann := annF)
    (M := 12 + (1 + Nat.add 250 (999 + (30 + (12525 + (520 + (1000 + (400 + 2)))))))) (boot_open bodies_plain rfl fence_plain) size_is ?_ rfl looks_is
  intro w os
  have hh : S77 w os = ⟨H77L w.params, #[], {}, 2581, os⟩ := congrFun (congrFun heapA_is w) os
  unfold S77 at hh
  rw [← hh]
  exact run_all w os
end Mine
end
section
open PySem PySem.W PyProof.Rows PySem.Spec PySem.Calls PySem.Flt Lean Meta Elab Tactic
set_option Elab.async false
set_option maxRecDepth 100000
namespace Mine
noncomputable def fltB (x y : UInt64) : Bool := Float64.cmp x y == some .lt
noncomputable def fmax3 (x y z : UInt64) : UInt64 := if fltB x y then (if fltB y z then z else y) else (if fltB x z then z else x)
noncomputable def fmin3 (x y z : UInt64) : UInt64 := if fltB y x then (if fltB z y then z else y) else (if fltB z x then z else x)
theorem max_three_ff {prog : Program} {w : World} {A : Around} {E : Value → Shared → Prop} {s : Shared} {Q : Value → Shared → Prop} {x y z : UInt64} {t u r : Tok} {h₀ : Heap} {L : Addr} {m : PySem.Str → Option Value} {news : List (Addr × Obj)}
    (hh : A.handled = none) (F : Fr h₀ L s.heap m) (N : News h₀ L s.heap news)
    (h : ∀ h' tk v, (v = t ∨ v = u ∨ v = r) → Fr h₀ L h' m → News h₀ L h' news → Q (.float (fmax3 x y z) v) { s with heap := h', toks := tk }) :
    wpAny (model prog w) A (call (.builtin "max") [.float x t, .float y u, .float z r]) Q E s := by
  have hT : (s.heap.push { cls := .type "tuple", data := .seq #[.float x t, .float y u, .float z r] }).IsTuple s.heap.objs.size #[.float x t, .float y u, .float z r] := ⟨_, Heap.get?_push_size _ rfl, rfl, 0, rfl⟩
  refine call_max_three (wpAny_pyIter_tuple hT ?_)
  have hsz : (s.heap.push { cls := .type "tuple", data := .seq #[.float x t, .float y u, .float z r] }).objs.size = s.heap.objs.size + 1 := Heap.size_push ..
  refine ⟨_, [_, s.heap.objs.size], [_], _, _, _, _, rfl, Walks.tuple (A := A.in1) hh _ s.heap.objs.size (by rw [hsz]; exact Nat.ne_of_lt (Nat.lt_succ_self _)) #[.float x t, .float y u, .float z r],
    ⟨⟨_, Heap.get?_push_size _ rfl, rfl, rfl⟩, hT.push _⟩, fun c hc => ?_, by simp, cmpOf_gt #[.float x t, .float y u, .float z r] (by simp; exact ⟨.float _ _, .float _ _, .float _ _⟩), fun v h' tk hP hk => ?_⟩
  · show c < ((s.heap.push _).push _).objs.size
    rw [Heap.size_push, hsz]
    rcases List.mem_cons.mp hc with rfl | hc
    · rw [hsz]; exact Nat.lt_succ_self _
    · rcases List.mem_cons.mp hc with rfl | hc
      · exact Nat.lt_succ_of_lt (Nat.lt_succ_self _)
      · cases hc
  · have hold : ∀ c o, s.heap.get? c = some o → h'.get? c = some o := fun c o e => by
      refine hk c o (fun hm => ?_) (Heap.get?_push_of_some _ (Heap.get?_push_of_some _ e))
      rcases List.mem_cons.mp hm with e1 | hm
      · have := Heap.lt_size e; rw [e1, hsz] at this; exact Nat.lt_irrefl _ (Nat.lt_of_succ_lt this)
      · cases hm
    have hv : ∃ tv, v = .float (fmax3 x y z) tv ∧ (tv = t ∨ tv = u ∨ tv = r) := by
      unfold fmax3 fltB
      cases h1 : ltV (.float x t) (.float y u) <;> cases h2 : ltV (.float x t) (.float z r) <;> cases h3 : ltV (.float y u) (.float z r) <;> simp [argBest, h1, h2, h3] at hP <;> (simp only [ltV] at h1 h2 h3) <;> simp [h1, h2, h3] <;> exact ⟨_, hP.symm, by simp⟩
    obtain ⟨tv, rfl, htv⟩ := hv
    exact h h' tk tv htv (F.grownK hold) (N.grown hold)
theorem min_three_ff {prog : Program} {w : World} {A : Around} {E : Value → Shared → Prop} {s : Shared} {Q : Value → Shared → Prop} {x y z : UInt64} {t u r : Tok} {h₀ : Heap} {L : Addr} {m : PySem.Str → Option Value} {news : List (Addr × Obj)}
    (hh : A.handled = none) (F : Fr h₀ L s.heap m) (N : News h₀ L s.heap news)
    (h : ∀ h' tk v, (v = t ∨ v = u ∨ v = r) → Fr h₀ L h' m → News h₀ L h' news → Q (.float (fmin3 x y z) v) { s with heap := h', toks := tk }) :
    wpAny (model prog w) A (call (.builtin "min") [.float x t, .float y u, .float z r]) Q E s := by
  have hT : (s.heap.push { cls := .type "tuple", data := .seq #[.float x t, .float y u, .float z r] }).IsTuple s.heap.objs.size #[.float x t, .float y u, .float z r] := ⟨_, Heap.get?_push_size _ rfl, rfl, 0, rfl⟩
  refine call_min_three (wpAny_pyIter_tuple hT ?_)
  have hsz : (s.heap.push { cls := .type "tuple", data := .seq #[.float x t, .float y u, .float z r] }).objs.size = s.heap.objs.size + 1 := Heap.size_push ..
  refine ⟨_, [_, s.heap.objs.size], [_], _, _, _, _, rfl, Walks.tuple (A := A.in1) hh _ s.heap.objs.size (by rw [hsz]; exact Nat.ne_of_lt (Nat.lt_succ_self _)) #[.float x t, .float y u, .float z r],
    ⟨⟨_, Heap.get?_push_size _ rfl, rfl, rfl⟩, hT.push _⟩, fun c hc => ?_, by simp, cmpOf_lt #[.float x t, .float y u, .float z r] (by simp; exact ⟨.float _ _, .float _ _, .float _ _⟩), fun v h' tk hP hk => ?_⟩
  · show c < ((s.heap.push _).push _).objs.size
    rw [Heap.size_push, hsz]
    rcases List.mem_cons.mp hc with rfl | hc
    · rw [hsz]; exact Nat.lt_succ_self _
    · rcases List.mem_cons.mp hc with rfl | hc
      · exact Nat.lt_succ_of_lt (Nat.lt_succ_self _)
      · cases hc
  · have hold : ∀ c o, s.heap.get? c = some o → h'.get? c = some o := fun c o e => by
      refine hk c o (fun hm => ?_) (Heap.get?_push_of_some _ (Heap.get?_push_of_some _ e))
      rcases List.mem_cons.mp hm with e1 | hm
      · have := Heap.lt_size e; rw [e1, hsz] at this; exact Nat.lt_irrefl _ (Nat.lt_of_succ_lt this)
      · cases hm
    have hv : ∃ tv, v = .float (fmin3 x y z) tv ∧ (tv = t ∨ tv = u ∨ tv = r) := by
      unfold fmin3 fltB
      cases h1 : ltV (.float y u) (.float x t) <;> cases h2 : ltV (.float z r) (.float x t) <;> cases h3 : ltV (.float z r) (.float y u) <;> simp [argBest, h1, h2, h3] at hP <;> (simp only [ltV] at h1 h2 h3) <;> simp [h1, h2, h3] <;> exact ⟨_, hP.symm, by simp⟩
    obtain ⟨tv, rfl, htv⟩ := hv
    exact h h' tk tv htv (F.grownK hold) (N.grown hold)
theorem max_three_at {prog : Program} {w : World} {A : Around} {E : Value → Shared → Prop} {s : Shared} {Q : Value → Shared → Prop} {x y z c : UInt64} {t u r : Tok} {h₀ : Heap} {L : Addr} {m : PySem.Str → Option Value} {news : List (Addr × Obj)}
    (e : fmax3 x y z = c) (hh : A.handled = none) (F : Fr h₀ L s.heap m) (N : News h₀ L s.heap news)
    (h : ∀ h' tk v, (v = t ∨ v = u ∨ v = r) → Fr h₀ L h' m → News h₀ L h' news → Q (.float c v) { s with heap := h', toks := tk }) :
    wpAny (model prog w) A (call (.builtin "max") [.float x t, .float y u, .float z r]) Q E s := by
  subst e; exact max_three_ff hh F N h
theorem min_three_at {prog : Program} {w : World} {A : Around} {E : Value → Shared → Prop} {s : Shared} {Q : Value → Shared → Prop} {x y z c : UInt64} {t u r : Tok} {h₀ : Heap} {L : Addr} {m : PySem.Str → Option Value} {news : List (Addr × Obj)}
    (e : fmin3 x y z = c) (hh : A.handled = none) (F : Fr h₀ L s.heap m) (N : News h₀ L s.heap news)
    (h : ∀ h' tk v, (v = t ∨ v = u ∨ v = r) → Fr h₀ L h' m → News h₀ L h' news → Q (.float c v) { s with heap := h', toks := tk }) :
    wpAny (model prog w) A (call (.builtin "min") [.float x t, .float y u, .float z r]) Q E s := by
  subst e; exact min_three_ff hh F N h
end Mine
end
section
open PySem PySem.W PyProof.Rows PySem.Spec PySem.Calls Lean Meta Elab Tactic
set_option Elab.async false
set_option maxRecDepth 100000
set_option maxHeartbeats 1000000
namespace Mine
/-- no run takes a token back -/
theorem runs_toks {M : Model} {Γ : PySem.Ctx} {p : Pos} {t : Sem PySem.Fin} {fs : List Frame} {s : Shared} {e : End} {s' : Shared} (h : Runs M Γ p t fs s e s') : s.toks ≤ s'.toks := by
  induction h with
  | fresh _ ih => exact Nat.le_of_succ_le ih
  | call _ _ a b => exact Nat.le_trans a b
  | resumeFresh _ _ _ _ a b => exact Nat.le_trans a b
  | resumeSuspended _ _ _ _ a b => exact Nat.le_trans a b
  | segRet _ _ a b => exact Nat.le_trans a b
  | segGen _ _ a b => exact Nat.le_trans a b
  | segSuspGen _ _ _ _ a b => exact Nat.le_trans a b
  | _ => first | exact Nat.le_refl _ | assumption
theorem wakes_toks {M : Model} {Γ : PySem.Ctx} {p : Pos} {g : Nat} {r : Resume} {s s' : Shared} {res : GenResult} (h : Wakes M Γ p g r s res s') : s.toks ≤ s'.toks := by
  unfold Wakes at h
  split at h
  · cases h
  · split at h
    · obtain ⟨e, s₁, hr, _, _, rfl⟩ := h; have q := runs_toks hr; exact q
    · rw [h.2]; exact Nat.le_refl _
    · rw [h.2]; exact Nat.le_refl _
  · obtain ⟨e, s₁, hr, _, _, rfl⟩ := h; have q := runs_toks hr; exact q
  all_goals (rw [h.2]; exact Nat.le_refl _)
theorem wp_toks {α : Type} {M : Model} {Γ : PySem.Ctx} {E : Value → Pos → Shared → Prop} (t : Sem α) (n : Nat) : ∀ {Q : α → Pos → Shared → Prop} {p : Pos} {s : Shared}, n ≤ s.toks → Sem.wp M Γ t (fun a p' s' => n ≤ s'.toks → Q a p' s') E p s → Sem.wp M Γ t Q E p s := by
  induction t with
  | pure a => intro Q p s h k; exact k h
  | raise e => intro Q p s h k; exact k
  | unsupported | finish | yield | fork | await | register => intro Q p s h k; exact k
  | rule _ k ih | «at» _ k ih | alloc _ k ih | loadIfAlive _ k ih | point _ k ih | ask k ih | os _ _ k ih | handled _ k ih | newGen _ k ih | stack k ih | thread k ih => intro Q p s h w; exact ih _ h w
  | fresh k ih => intro Q p s h w; exact ih _ (Nat.le_succ_of_le h) w
  | load a _ k ih | genState a k ih => intro Q p s h w; obtain ⟨o, ho, w⟩ := w; exact ⟨o, ho, ih _ h w⟩
  | update a _ f k ih | choose _ _ k ih => intro Q p s h w; exact ⟨w.1, ih _ h w.2⟩
  | call c hd g l k ih => intro Q p s h w; obtain ⟨r, s', hr, w⟩ := w; exact ⟨r, s', hr, ih _ (Nat.le_trans h (runs_toks hr)) w⟩
  | resume g r l k ih => intro Q p s h w; obtain ⟨res, s', hw, w⟩ := w; exact ⟨res, s', hw, ih _ (Nat.le_trans h (wakes_toks hw)) w⟩
/-- a step's end knows that no token was taken back -/
theorem wpAny_up {α : Type} {M : Model} {A : Around} {t : Sem α} {Q : α → Shared → Prop} {E : Value → Shared → Prop} {s : Shared} (h : wpAny M A t (fun a s' => s.toks ≤ s'.toks → Q a s') E s) : wpAny M A t Q E s :=
  fun Γ p hΓ => wp_toks t s.toks (Nat.le_refl _) (h Γ p hΓ)
end Mine
end
section
open PySem PySem.W PyProof.Rows PySem.Spec PySem.Calls
set_option Elab.async false
set_option maxRecDepth 100000
namespace Mine
/-- pure data, as the law's functions know it: no address, no token -/
inductive SV where
  | none | bool (b : Bool) | int (n : Int) | flt (x : UInt64) | str (x : PySem.Str) | tup (l : List SV) | lst (l : List SV) | raw (v : Value)
noncomputable abbrev Led := List (Addr × Obj)
noncomputable abbrev oTup (vs : List Value) : Obj := { cls := .type "tuple", data := .seq vs.toArray }
mutual
inductive Rep (N : Led) : SV → Value → Prop
  | none : Rep N .none .none
  | bool (b) : Rep N (.bool b) (.bool b)
  | int (n t) : Rep N (.int n) (.int n t)
  | flt (x t) : 0 < t → Rep N (.flt x) (.float x t)
  | str (x t) : Rep N (.str x) (.str x t)
  | tup (a vs l) : (a, oTup vs) ∈ N → Reps N l vs → Rep N (.tup l) (.ref a)
  | lst (a vs l n) : (a, W.listOf vs.toArray n) ∈ N → Reps N l vs → Rep N (.lst l) (.ref a)
  | raw (v) : Rep N (.raw v) v
inductive Reps (N : Led) : List SV → List Value → Prop
  | nil : Reps N [] []
  | cons {x v l vs} : Rep N x v → Reps N l vs → Reps N (x :: l) (v :: vs)
end
mutual
theorem Rep.mono {N N' : Led} (hs : ∀ p ∈ N, p ∈ N') : ∀ {x v}, Rep N x v → Rep N' x v
  | _, _, .none => .none
  | _, _, .bool _ => .bool _
  | _, _, .int _ _ => .int _ _
  | _, _, .flt _ _ h => .flt _ _ h
  | _, _, .str _ _ => .str _ _
  | _, _, .tup a vs l h r => .tup a vs l (hs _ h) (Reps.mono hs r)
  | _, _, .lst a vs l n h r => .lst a vs l n (hs _ h) (Reps.mono hs r)
  | _, _, .raw _ => .raw _
theorem Reps.mono {N N' : Led} (hs : ∀ p ∈ N, p ∈ N') : ∀ {l vs}, Reps N l vs → Reps N' l vs
  | _, _, .nil => .nil
  | _, _, .cons h r => .cons (Rep.mono hs h) (Reps.mono hs r)
end
theorem Reps.length {N : Led} : ∀ {l vs}, Reps N l vs → vs.length = l.length
  | _, _, .nil => rfl
  | _, _, .cons _ r => congrArg (· + 1) (Reps.length r)
theorem Reps.get {N : Led} : ∀ {l vs} (k : Nat) {x}, Reps N l vs → l[k]? = some x → ∃ v, vs[k]? = some v ∧ Rep N x v
  | _, _, 0, _, .cons h _, e => ⟨_, rfl, by cases e; exact h⟩
  | _, _, k + 1, _, .cons _ r, e => by
    obtain ⟨v, h1, h2⟩ := Reps.get k r (by simpa using e)
    exact ⟨v, by simpa using h1, h2⟩
  | _, _, _, _, .nil, e => by cases e
theorem Reps.snoc {N : Led} {y : SV} {u : Value} (h : Rep N y u) : ∀ {l vs}, Reps N l vs → Reps N (l ++ [y]) (vs ++ [u])
  | _, _, .nil => .cons h .nil
  | _, _, .cons a r => .cons a (Reps.snoc h r)
noncomputable abbrev Own := List (Addr × List Value × Nat)
noncomputable abbrev oOwn (o : Addr × List Value × Nat) : Addr × Obj := (o.1, W.listOf o.2.1.toArray o.2.2)
/-- the heap as it stands for a frame: F frozen, O the frame's own growing lists, W what must be kept for the caller -/
structure HS (h₀ : Heap) (L : Addr) (W : Led) (h : Heap) (m : PySem.Str → Option Value) (F : Led) (O : Own) : Prop where
  fr : Fr h₀ L h m
  nw : News h₀ L h (O.map oOwn ++ (F ++ W))
  ap : ∀ b ∈ O.map (·.1), ∀ p ∈ F ++ W, p.1 ≠ b
  pw : (O.map (·.1)).Pairwise (· ≠ ·)
theorem HS.alloc {h₀ h h' : Heap} {L : Addr} {W F : Led} {O : Own} {m : PySem.Str → Option Value} {D : Addr} {ob : Obj} (H : HS h₀ L W h m F O) (fr : Fr h₀ L h' m) (nw : News h₀ L h' ((D, ob) :: (O.map oOwn ++ (F ++ W)))) (hl : ∀ p ∈ O.map oOwn ++ (F ++ W), p.1 ≠ D) : HS h₀ L W h' m ((D, ob) :: F) O := by
  refine ⟨fr, fun p hp => nw p ?_, fun b hb p hp => ?_, H.pw⟩
  · simp only [List.mem_append, List.mem_cons] at hp ⊢
    rcases hp with hp | (hp | hp) | hp <;> simp [hp]
  · simp only [List.mem_append, List.mem_cons] at hp
    rcases hp with (hp | hp) | hp
    · subst hp
      obtain ⟨o, ho, rfl⟩ := List.mem_map.mp hb
      exact (hl (oOwn o) (List.mem_append.mpr (.inl (List.mem_map_of_mem ho)))).symm
    · exact H.ap b hb p (by simp [hp])
    · exact H.ap b hb p (by simp [hp])
theorem HS.same {h₀ h h' : Heap} {L : Addr} {W F : Led} {O : Own} {m m' : PySem.Str → Option Value} (H : HS h₀ L W h m F O) (fr : Fr h₀ L h' m') (nw : News h₀ L h' (O.map oOwn ++ (F ++ W))) : HS h₀ L W h' m' F O := ⟨fr, nw, H.ap, H.pw⟩
theorem HS.grow {h₀ h h' : Heap} {L : Addr} {W F tl : Led} {O : Own} {m : PySem.Str → Option Value} (H : HS h₀ L W h m F O) (fr : Fr h₀ L h' m) (nw : News h₀ L h' (tl ++ (O.map oOwn ++ (F ++ W)))) (hl : ∀ q ∈ O.map oOwn ++ (F ++ W), ∀ p ∈ tl, q.1 ≠ p.1) : HS h₀ L W h' m (tl ++ F) O := by
  refine ⟨fr, fun p hp => nw p ?_, fun b hb p hp => ?_, H.pw⟩
  · simp only [List.mem_append] at hp ⊢
    rcases hp with hp | (hp | hp) | hp <;> simp [hp]
  · simp only [List.mem_append] at hp
    rcases hp with (hp | hp) | hp
    · obtain ⟨o, ho, rfl⟩ := List.mem_map.mp hb
      exact (hl (oOwn o) (List.mem_append.mpr (.inl (List.mem_map_of_mem ho))) p hp).symm
    · exact H.ap b hb p (by simp [hp])
    · exact H.ap b hb p (by simp [hp])
noncomputable abbrev Vs := List (PySem.Str × SV)
noncomputable abbrev Ow := List (PySem.Str × List SV)
noncomputable def Vars (F : Led) (m : PySem.Str → Option Value) (σ : Vs) : Prop := ∀ x sv, σ.lookup x = some sv → ∃ v, m x = some v ∧ Rep F sv v
theorem Vars.mono {F F' : Led} {m : PySem.Str → Option Value} {σ : Vs} (hs : ∀ p ∈ F, p ∈ F') (h : Vars F m σ) : Vars F' m σ := fun x sv e => let ⟨v, a, b⟩ := h x sv e; ⟨v, a, b.mono hs⟩
/-- the frame's growing lists, name by name -/
inductive OwnR (F : Led) (m : PySem.Str → Option Value) : Ow → Own → Prop
  | nil : OwnR F m [] []
  | cons {x D l vs n ow O} : m x = some (.ref D) → Reps F l vs → vs.length = l.length → OwnR F m ow O → OwnR F m ((x, l) :: ow) ((D, vs, n) :: O)
theorem OwnR.mono {F F' : Led} {m : PySem.Str → Option Value} (hs : ∀ p ∈ F, p ∈ F') : ∀ {ow O}, OwnR F m ow O → OwnR F' m ow O
  | _, _, .nil => .nil
  | _, _, .cons a b c r => .cons a (b.mono hs) c (r.mono hs)
theorem OwnR.get {F : Led} {m : PySem.Str → Option Value} {x : PySem.Str} {l : List SV} : ∀ {ow O}, OwnR F m ow O → ow.lookup x = some l → ∃ D vs n, m x = some (.ref D) ∧ Reps F l vs ∧ (D, vs, n) ∈ O
  | _, _, .nil, e => by cases e
  | _, _, .cons (x := y) a b c r, e => by
    rw [List.lookup_cons] at e
    split at e
    · rename_i h; have h := eq_of_beq h; subst h; cases e; exact ⟨_, _, _, a, b, .head _⟩
    · obtain ⟨D, vs, n, h1, h2, h3⟩ := OwnR.get r e
      exact ⟨D, vs, n, h1, h2, .tail _ h3⟩
theorem OwnR.frame {F : Led} {m m' : PySem.Str → Option Value} : ∀ {ow O}, (∀ x l, (x, l) ∈ ow → m' x = m x) → OwnR F m ow O → OwnR F m' ow O
  | _, _, _, .nil => .nil
  | _, _, h, .cons a b c r => .cons ((h _ _ (.head _)).trans a) b c (OwnR.frame (fun x l e => h x l (.tail _ e)) r)
noncomputable def updOw (x : PySem.Str) (v : SV) : Ow → Ow
  | [] => []
  | (y, l) :: r => match y == x with | true => (y, l ++ [v]) :: r | false => (y, l) :: updOw x v r
theorem OwnR.push {F G : Led} {m : PySem.Str → Option Value} {x : PySem.Str} {l : List SV} {sv : SV} {v : Value} (rv : Rep F sv v) : ∀ {ow O}, OwnR F m ow O → ow.lookup x = some l → (O.map (·.1)).Pairwise (· ≠ ·) → (∀ b ∈ O.map (·.1), ∀ p ∈ G, p.1 ≠ b) →
    ∃ D vs n O', m x = some (.ref D) ∧ (D, vs, n) ∈ O ∧ vs.length = l.length ∧ OwnR F m (updOw x sv ow) O' ∧ O'.map (·.1) = O.map (·.1) ∧ Upd D (W.listOf vs.toArray n) (W.listOf (vs.toArray.push v) (n + 1)) (O.map oOwn ++ G) (O'.map oOwn ++ G)
  | _, _, .nil, e, _, _ => by cases e
  | _, _, .cons (x := y) (D := D) (vs := vs) (n := n) (O := O) a b c r, e, pw, ap => by
    rw [List.lookup_cons] at e
    cases h : (x == y) with
    | true =>
      rw [h] at e
      cases e
      have hyx := eq_of_beq h
      subst hyx
      refine ⟨D, vs, n, (D, vs ++ [v], n + 1) :: O, a, .head _, c, ?_, rfl, ?_⟩
      · show OwnR F m (match x == x with | true => _ | false => _) _
        rw [beq_self_eq_true]
        exact .cons a (Reps.snoc rv b) (by simp [c]) r
      · show Upd D _ _ ((D, W.listOf vs.toArray n) :: (O.map oOwn ++ G)) ((D, W.listOf (vs ++ [v]).toArray (n + 1)) :: (O.map oOwn ++ G))
        rw [List.push_toArray]
        refine Upd.head fun p hp => ?_
        rcases List.mem_append.mp hp with hp | hp
        · obtain ⟨o, ho, rfl⟩ := List.mem_map.mp hp
          exact ((List.pairwise_cons.mp pw).1 o.1 (List.mem_map_of_mem ho)).symm
        · exact ap D (.head _) p hp
    | false =>
      rw [h] at e
      have pw' := List.pairwise_cons.mp pw
      obtain ⟨D', vs', n', O', h1, h2, h3, h4, h5, h6⟩ := OwnR.push rv r e pw'.2 fun b hb => ap b (.tail _ hb)
      refine ⟨D', vs', n', (D, vs, n) :: O', h1, .tail _ h2, h3, ?_, ?_, ?_⟩
      · show OwnR F m (match y == x with | true => _ | false => _) _
        have : (y == x) = false := by
          cases h' : (y == x) with
          | false => rfl
          | true => rw [eq_of_beq h', beq_self_eq_true] at h; cases h
        rw [this]
        exact .cons a b c h4
      · rw [List.map_cons, List.map_cons, h5]
      · show Upd D' _ _ (oOwn (D, vs, n) :: (O.map oOwn ++ G)) (oOwn (D, vs, n) :: (O'.map oOwn ++ G))
        exact Upd.tail (pw'.1 D' (List.mem_map_of_mem (f := (·.1)) h2)) h6
theorem not_own {ow : Ow} {x : PySem.Str} (h : ow.lookup x = none) : ∀ y l, (y, l) ∈ ow → y ≠ x := by
  induction ow with
  | nil => intro y l e; cases e
  | cons p r ih =>
    obtain ⟨z, k⟩ := p
    rw [List.lookup_cons] at h
    intro y l e q
    subst q
    cases hb : (y == z) with
    | true => rw [hb] at h; cases h
    | false =>
      rw [hb] at h
      rcases List.mem_cons.mp e with e | e
      · cases e; rw [beq_self_eq_true] at hb; cases hb
      · exact ih h y l e rfl
end Mine
end
section
open PySem PySem.W PyProof.Rows PySem.Spec PySem.Calls
set_option Elab.async false
set_option maxRecDepth 100000
namespace Mine
structure Par where
  kd : PySem.Str → Option NameKind
  gl : PySem.Str → Option Value
  us : Value → List SV → (SV → Prop) → Prop
  cv : PySem.Str → Option Value
  cm : CmpOp → SV → SV → (Bool → Prop) → Prop
  fl : Bool
  /-- the frame's own readings of expressions -/
  xo : PySem.Expr → Bool
  xe : (PySem.Expr → (SV → Prop) → Prop) → PySem.Expr → (SV → Prop) → Prop
  xs : ∀ ev e K, xo e = true → xe ev e K → (∀ a b c p, e ≠ .Slice a b c p) ∧ ∀ t k env, swapsWith e t k env = pure false
/-- floats are made only where a token is known to have been given out -/
noncomputable abbrev TP (P : Par) (tk : Nat) : Prop := P.fl = true → 0 < tk
noncomputable def bopI (P : Par) (op : Operator) (a b : Int) (K : SV → Prop) : Prop := match op with
  | .Add => K (.int (a + b))
  | .Sub => K (.int (a - b))
  | .Mult => IntMulOk a b ∧ K (.int (a * b))
  | .Mod => b ≠ 0 ∧ K (.int (a.fmod b))
  | .FloorDiv => (b ≠ 0 ∧ Builtin.divisionGoesByPylong a b = false) ∧ K (.int (a.fdiv b))
  | .Div => (P.fl = true ∧ b ≠ 0 ∧ a.natAbs < 2 ^ 1023) ∧ K (.flt (Float64.ofFrac (decide (a < 0) != decide (b < 0)) a.natAbs b.natAbs))
  | _ => False
noncomputable def bopF (op : Operator) (a b : UInt64) (K : SV → Prop) : Prop := match op with
  | .Add => K (.flt (Float64.add a b))
  | .Sub => K (.flt (Float64.sub a b))
  | .Mult => K (.flt (Float64.mul a b))
  | .Div => Float64.isZero b = false ∧ K (.flt (Float64.div a b))
  | .Mod => Float64.isZero b = false ∧ K (.flt (Float64.divmod a b).snd)
  | _ => False
noncomputable def bopG (op : Operator) (a : UInt64) (n : Int) (K : SV → Prop) : Prop := match op with
  | .Sub => n.natAbs < 2 ^ 60 ∧ K (.flt (Float64.sub a (Float64.ofInt n)))
  | .Mult => n.natAbs < 2 ^ 60 ∧ K (.flt (Float64.mul a (Float64.ofInt n)))
  | _ => False
noncomputable def bop (P : Par) (op : Operator) (a b : SV) (K : SV → Prop) : Prop := match a, b with
  | .int a, .int b => bopI P op a b K
  | .flt a, .flt b => (match P.fl with | true => bopF op a b K | false => False)
  | .flt a, .int n => (match P.fl with | true => bopG op a n K | false => False)
  | .str x, .str y => (match op with | .Add => x.length + y.length ≤ sizeLine ∧ K (.str (x ++ y)) | _ => False)
  | .str x, .int n => (match op with | .Mult => MulOk x n ∧ K (.str (Txt.mul x n)) | _ => False)
  | _, _ => False
noncomputable def cmpop (op : CmpOp) (a b : SV) (K : Bool → Prop) : Prop := match a, b with
  | .flt a, .flt b => (match op with | .Eq => K (Float64.cmp a b == some .eq) | .LtE => K (Float64.cmp a b == some .lt || Float64.cmp a b == some .eq) | _ => False)
  | .int a, .int b => (match op with | .Eq => K (a == b) | _ => False)
  | .str a, .str b => (match op with | .Eq => K (a == b) | _ => False)
  | _, _ => False
noncomputable def cmpP (P : Par) (op : CmpOp) (a b : SV) (K : Bool → Prop) : Prop := match a, b with
  | .tup x, .tup y => P.cm op (.tup x) (.tup y) K
  | .lst x, .lst y => P.cm op (.lst x) (.lst y) K
  | a, b => cmpop op a b K
noncomputable def idx (l : List SV) (i : SV) (K : SV → Prop) : Prop := match i with
  | .int (.ofNat k) => (match Nat.blt k 100, l[k]? with | true, some x => K x | _, _ => False)
  | _ => False
noncomputable def plainCmp : CmpOp → Bool
  | .In | .NotIn => false
  | _ => true
noncomputable def gA (ev : PySem.Expr → (SV → Prop) → Prop) (es : List PySem.Expr) : (List SV → Prop) → Prop :=
  @List.rec PySem.Expr (fun _ => (List SV → Prop) → Prop) (fun K => K []) (fun e _ ih K => ev e fun v => ih fun vs => K (v :: vs)) es
noncomputable def unstar : PySem.Expr → Bool
  | .Starred .. => false
  | _ => true
noncomputable def okF : Value → Bool
  | .builtin _ => true
  | .type _ => true
  | .ref _ => true
  | _ => false
noncomputable def nameOf : PySem.Expr → Option PySem.Str
  | .Name x _ => some x
  | _ => none
theorem nameOf_some {e : PySem.Expr} {x : PySem.Str} (h : nameOf e = some x) : ∃ p, e = .Name x p := by
  revert h
  cases e <;> intro h <;> cases h
  exact ⟨_, rfl⟩
noncomputable def isDivO : Operator → Bool
  | .Div => true
  | _ => false
theorem isDivO_t {op : Operator} (h : isDivO op = true) : op = .Div := by
  revert h
  cases op <;> intro h <;> cases h
  rfl
noncomputable def ownOf (ow : Ow) (e : PySem.Expr) : Option (List SV) := match nameOf e with
  | some x => ow.lookup x
  | none => none
noncomputable def cN (P : Par) (σ : Vs) (x : PySem.Str) (K : SV → Prop) : Prop := match P.kd x with
  | some .local => (match σ.lookup x with | some v => K v | none => False)
  | some .cell => (match σ.lookup x with | some v => K v | none => False)
  | some .globalImplicit => (match P.gl x with | some v => K (.raw v) | none => False)
  | _ => False
noncomputable def cG (P : Par) (x : PySem.Str) (K : Value → Prop) : Prop := match P.kd x with
  | some .globalImplicit => (match P.gl x with | some v => K v | none => False)
  | _ => False
noncomputable def cC (P : Par) (c : Const) (K : SV → Prop) : Prop := match c with
  | .int i => K (.int i)
  | .float b => (match P.fl with | true => K (.flt b) | false => False)
  | .str s => K (.str s)
  | _ => False
/-- what a name of the frame reads: its own map, or its cell -/
noncomputable def rdv (P : Par) (m : PySem.Str → Option Value) (x : PySem.Str) : Option Value := match P.kd x with
  | some .cell => P.cv x
  | _ => m x
/-- a quotient by a written int: a token was given out for it -/
noncomputable def divC (P : Par) (op : Operator) (r : PySem.Expr) : Option Int := match P.fl with
  | true => none
  | false => (match isDivO op with
    | true => cintOf r
    | false => none)
/-- a name of the frame's own, no growing list -/
noncomputable def locF (P : Par) (ow : Ow) (x : PySem.Str) : Bool := match P.kd x with
  | some .local => (ow.lookup x).isNone
  | _ => false
theorem locF_t {P : Par} {ow : Ow} {x : PySem.Str} (h : locF P ow x = true) : P.kd x = some .local ∧ ow.lookup x = none := by
  replace h : (match P.kd x with | some .local => (ow.lookup x).isNone | _ => false) = true := h
  cases hk : P.kd x with
  | none => rw [hk] at h; exact nomatch h
  | some k =>
    rw [hk] at h
    cases k with
    | «local» => exact ⟨rfl, Option.isNone_iff_eq_none.mp h⟩
    | _ => exact nomatch h
noncomputable def gEb (P : Par) (ow : Ow) (σ : Vs) (ev : PySem.Expr → (SV → Prop) → Prop) (e : PySem.Expr) (K : SV → Prop) : Prop := match e with
    | .Name x _ => cN P σ x K
    | .Constant c _ _ => cC P c K
    | .BinOp l op r _ => (match divC P op r with
      | some k => ev l fun a => (match a with | .int a => (k ≠ 0 ∧ a.natAbs < 2 ^ 1023) ∧ K (.flt (Float64.ofFrac (decide (a < 0) != decide (k < 0)) a.natAbs k.natAbs)) | _ => False)
      | none => ev l fun a => ev r fun b => bop P op a b K)
    | .UnaryOp .USub x _ => ev x fun a => (match a with | .int i => K (.int (-i)) | _ => False)
    | .Compare l [op] [r] _ => (match plainCmp op with
      | true => ev l fun a => ev r fun b => cmpP P op a b fun c => K (.bool c)
      | false => False)
    | .Tuple elts _ _ => (match elts.all unstar with | true => gA ev elts fun l => (match Nat.blt l.length 100 with | true => K (.tup l) | false => False) | false => False)
    | .List elts _ => (match elts.all unstar with | true => gA ev elts fun l => (match Nat.blt l.length 100 with | true => K (.lst l) | false => False) | false => False)
    | .Subscript value slice _ => (match ownOf ow value with
      | some l => ev slice fun i => idx l i K
      | none => ev value fun o => ev slice fun i => (match o with | .tup l => idx l i K | .lst l => idx l i K | _ => False))
    | .Call (.Name f _) (e :: es) [] _ => (match (e :: es).all unstar with
      | true => cG P f fun f => (match okF f with | true => gA ev (e :: es) fun l => P.us f l K | false => False)
      | false => False)
    | _ => False
noncomputable def gEs (P : Par) (ow : Ow) (σ : Vs) (ev : PySem.Expr → (SV → Prop) → Prop) (e : PySem.Expr) (K : SV → Prop) : Prop := match P.xo e with
  | true => P.xe ev e K
  | false => gEb P ow σ ev e K
theorem gEs_t {P : Par} {ow : Ow} {σ : Vs} {ev : PySem.Expr → (SV → Prop) → Prop} {e : PySem.Expr} {K : SV → Prop} (hx : P.xo e = true) (h : gEs P ow σ ev e K) : P.xe ev e K := by
  unfold gEs at h; rw [hx] at h; exact h
theorem gEs_f {P : Par} {ow : Ow} {σ : Vs} {ev : PySem.Expr → (SV → Prop) → Prop} {e : PySem.Expr} {K : SV → Prop} (hx : P.xo e = false) (h : gEs P ow σ ev e K) : gEb P ow σ ev e K := by
  unfold gEs at h; rw [hx] at h; exact h
noncomputable def gE (P : Par) (ow : Ow) (σ : Vs) (n : Nat) : PySem.Expr → (SV → Prop) → Prop :=
  @Nat.rec (fun _ => PySem.Expr → (SV → Prop) → Prop) (fun _ _ => False) (fun _ ih => gEs P ow σ ih) n
theorem gE_slice {P : Par} {ow : Ow} {σ : Vs} {n : Nat} {e : PySem.Expr} {K : SV → Prop} (h : gE P ow σ n e K) : ∀ a b c p, e ≠ .Slice a b c p := by
  rintro a b c p rfl
  cases n with
  | zero => exact h
  | succ n =>
    cases hx : P.xo (.Slice a b c p) with
    | true => exact absurd rfl ((P.xs _ _ _ hx (gEs_t hx h)).1 _ _ _ _)
    | false => exact gEs_f hx h
theorem sub_plain {slice : PySem.Expr} (h : ∀ a b c p, slice ≠ .Slice a b c p) (o i : Value) : subscripted slice false o i = operate [o, i] (getItem o i) := by
  cases slice <;> first | rfl | exact absurd rfl (h _ _ _ _)
theorem star_cons {e : PySem.Expr} {rest : List PySem.Expr} {env : Env} (h : unstar e = true) : starEach (e :: rest) env = (false, eval e env) :: starEach rest env := by
  cases e <;> first | rfl | cases h
theorem star_any {env : Env} {pos : Pos} : ∀ {es : List PySem.Expr}, es.all unstar = true → ((backTo pos (starEach es env)).any fun x => x.1) = false
  | [], _ => rfl
  | e :: es, h => by
    rw [List.all_cons, Bool.and_eq_true] at h
    rw [star_cons h.1]
    have := star_any (env := env) (pos := pos) h.2
    unfold backTo at this ⊢
    simpa using this
theorem swaps_plain {P : Par} {ow : Ow} {σ : Vs} {n : Nat} {e : PySem.Expr} {K : SV → Prop} (h : gE P ow σ n e K) (t : Option PySem.Expr) (k : Nat) (env : Env) : swapsWith e t k env = pure false := by
  cases n with
  | zero => exact h.elim
  | succ n =>
    cases hx : P.xo e with
    | true => exact (P.xs _ _ _ hx (gEs_t hx h)).2 _ _ _
    | false =>
      have h := gEs_f hx h
      cases e <;> first | rfl | exact h.elim
end Mine
end
section
open PySem PySem.W PyProof.Rows PySem.Spec PySem.Calls
set_option Elab.async false
set_option maxRecDepth 100000
namespace Mine
noncomputable abbrev Aprt (W tl : Led) : Prop := ∀ q ∈ W, ∀ p ∈ tl, q.1 ≠ p.1
noncomputable def KE (P : Par) (h₀ : Heap) (L : Addr) (W : Led) (m : PySem.Str → Option Value) (F : Led) (O : Own) (s : Shared) (K : SV → Prop) (Q : Value → Shared → Prop) : Prop :=
  ∀ v h' tk tl sv, TP P tk → HS h₀ L W h' m (tl ++ F) O → Aprt W tl → K sv → Rep (tl ++ F) sv v → Q v { s with heap := h', toks := tk }
noncomputable def KA (P : Par) (h₀ : Heap) (L : Addr) (W : Led) (m : PySem.Str → Option Value) (F : Led) (O : Own) (s : Shared) (K : List SV → Prop) (Q : List Value → Shared → Prop) : Prop :=
  ∀ vs h' tk tl l, TP P tk → HS h₀ L W h' m (tl ++ F) O → Aprt W tl → K l → Reps (tl ++ F) l vs → Q vs { s with heap := h', toks := tk }
theorem Aprt.app {W t u : Led} (h : Aprt W t) (k : Aprt W u) : Aprt W (u ++ t) := fun q hq p hp => by
  rcases List.mem_append.mp hp with hp | hp
  · exact k q hq p hp
  · exact h q hq p hp
theorem sub_app {t F : Led} : ∀ p ∈ F, p ∈ t ++ F := fun _ h => List.mem_append.mpr (.inr h)
theorem aprt_nil {W : Led} : Aprt W [] := fun _ _ _ h => nomatch h
section
variable {P : Par} {h₀ : Heap} {L : Addr} {W : Led} {m : PySem.Str → Option Value} {F : Led} {O : Own} {s : Shared} {K : SV → Prop} {Q : Value → Shared → Prop}
/-- the same data, nothing new -/
theorem KE.now (k : KE P h₀ L W m F O s K Q) {v : Value} {h' : Heap} {tk : Nat} {sv : SV} (ht : TP P tk) (H : HS h₀ L W h' m F O) (hk : K sv) (r : Rep F sv v) : Q v { s with heap := h', toks := tk } := k v h' tk [] sv ht H aprt_nil hk r
/-- behind a step that made tl -/
theorem KE.step {t : Led} {h1 : Heap} {tk1 : Nat} (k : KE P h₀ L W m F O s K Q) (ha : Aprt W t) : KE P h₀ L W m (t ++ F) O { s with heap := h1, toks := tk1 } K Q :=
  fun v h' tk tl sv ht H a hk r => k v h' tk (tl ++ t) sv ht (by rw [List.append_assoc]; exact H) (ha.app a) hk (by rw [List.append_assoc]; exact r)
end
section
variable {P : Par} {w : World} {A : Around} {E : Value → Shared → Prop} {h₀ : Heap} {L : Addr} {W : Led} {m : PySem.Str → Option Value} {F : Led} {O : Own} {s : Shared} {K : SV → Prop} {Q : Value → Shared → Prop} {t u : Tok}
theorem tp_succ {n : Nat} : TP P (n + 1) := fun _ => Nat.succ_pos _
theorem tp_le {n k : Nat} (h : TP P n) (hk : n ≤ k) : TP P k := fun e => Nat.lt_of_lt_of_le (h e) hk
theorem bopI_sound {op : Operator} {a b : Int} (hA : A.handled = none) (hp : TP P s.toks) (hK : bopI P op a b K) (H : HS h₀ L W s.heap m F O) (k : KE P h₀ L W m F O s K Q) : wpAny (model PySem.Challenge.rw_wf0099_01.prog w) A (binaryOp op (.int a t) (.int b u)) Q E s := by
  cases op
  case Add => (with_reducible refine PyProof.Rows.add_int ?_); exact k.now tp_succ H hK (.int _ _)
  case Sub => (with_reducible refine PyProof.Rows.sub_int ?_); exact k.now tp_succ H hK (.int _ _)
  case Mult => (with_reducible refine PyProof.Rows.mul_int ?_ ?_); exact k.now tp_succ H hK.2 (.int _ _); exact hK.1
  case Div => (with_reducible refine PySem.Flt.div_ii_fits hA ?_ ?_ ?_); exact hK.1.2.2; exact fun e => absurd e hK.1.2.1; exact fun _ _ => k.now tp_succ H hK.2 (.flt _ _ (hp hK.1.1))
  case Mod => (with_reducible refine PyProof.Rows.mod_int' ?_ ?_); exact hK.1; exact k.now tp_succ H hK.2 (.int _ _)
  case FloorDiv => (with_reducible refine PyProof.Rows.floordiv_int ?_ ?_ (.inl ?_)); exact hK.1.1; exact k.now tp_succ H hK.2 (.int _ _); exact hK.1.2
  all_goals (exfalso; exact hK)
theorem nz {b : UInt64} (h : Float64.isZero b = false) : ¬ Float64.isZero b = true := by rw [h]; exact Bool.false_ne_true
theorem bopF_sound {op : Operator} {a b : UInt64} (hA : A.handled = none) (hp : 0 < s.toks) (hK : bopF op a b K) (H : HS h₀ L W s.heap m F O) (k : KE P h₀ L W m F O s K Q) : wpAny (model PySem.Challenge.rw_wf0099_01.prog w) A (binaryOp op (.float a t) (.float b u)) Q E s := by
  cases op
  case Add => (with_reducible refine PyProof.Rows.add_float ?_); exact k.now tp_succ H hK (.flt _ _ hp)
  case Sub => (with_reducible refine PyProof.Rows.sub_float ?_); exact k.now tp_succ H hK (.flt _ _ hp)
  case Mult => (with_reducible refine PyProof.Rows.mul_float ?_); exact k.now tp_succ H hK (.flt _ _ hp)
  case Div => (with_reducible refine PyProof.Rows.truediv_float_or hA ?_ ?_); exact fun e => absurd e (nz hK.1); exact fun _ => k.now tp_succ H hK.2 (.flt _ _ hp)
  case Mod => (with_reducible refine PySem.Flt.mod_ff hA ?_ ?_); exact fun e => absurd e (nz hK.1); exact fun _ => k.now tp_succ H hK.2 (.flt _ _ hp)
  all_goals (exfalso; exact hK)
set_option exponentiation.threshold 2000 in
theorem lt_big {n : Nat} (h : n < 2 ^ 60) : ¬ (2 ^ 1024 - 2 ^ 970 ≤ n) := Nat.not_le.mpr (Nat.lt_of_lt_of_le h (by decide))
theorem bopG_sound {op : Operator} {a : UInt64} {n : Int} (hA : A.handled = none) (hp : 0 < s.toks) (hK : bopG op a n K) (H : HS h₀ L W s.heap m F O) (k : KE P h₀ L W m F O s K Q) : wpAny (model PySem.Challenge.rw_wf0099_01.prog w) A (binaryOp op (.float a t) (.int n u)) Q E s := by
  cases op
  case Sub =>
    obtain ⟨h1, h2⟩ := hK
    (with_reducible refine PyProof.Rows.sub_fi_sharp hA ?_ ?_)
    · exact fun e => absurd e (lt_big h1)
    · exact fun _ => k.now tp_succ H h2 (.flt _ _ hp)
  case Mult =>
    obtain ⟨h1, h2⟩ := hK
    (with_reducible refine PyProof.Rows.mul_fi_sharp hA ?_ ?_)
    · exact fun e => absurd e (lt_big h1)
    · exact fun _ => k.now tp_succ H h2 (.flt _ _ hp)
  all_goals (exfalso; exact hK)
inductive BopIs (P : Par) (K : SV → Prop) : Operator → SV → SV → Prop
  | ii {op a b} : bopI P op a b K → BopIs P K op (.int a) (.int b)
  | ff {op a b} : P.fl = true → bopF op a b K → BopIs P K op (.flt a) (.flt b)
  | fi {op a n} : P.fl = true → bopG op a n K → BopIs P K op (.flt a) (.int n)
  | ss {x y} : x.length + y.length ≤ sizeLine ∧ K (.str (x ++ y)) → BopIs P K .Add (.str x) (.str y)
  | si {x n} : MulOk x n ∧ K (.str (Txt.mul x n)) → BopIs P K .Mult (.str x) (.int n)
theorem bop_inv {op : Operator} {x y : SV} (h : bop P op x y K) : BopIs P K op x y := by
  cases x
  case int => cases y <;> first | exact .ii h | exact False.elim h
  case flt a =>
    cases y
    case flt b =>
      replace h : (match P.fl with | true => bopF op a b K | false => False) := h
      cases hf : P.fl with
      | true => rw [hf] at h; exact .ff hf h
      | false => rw [hf] at h; exact False.elim h
    case int b =>
      replace h : (match P.fl with | true => bopG op a b K | false => False) := h
      cases hf : P.fl with
      | true => rw [hf] at h; exact .fi hf h
      | false => rw [hf] at h; exact False.elim h
    all_goals exact False.elim h
  case str =>
    cases y
    case str => cases op <;> first | exact .ss h | exact False.elim h
    case int => cases op <;> first | exact .si h | exact False.elim h
    all_goals exact False.elim h
  all_goals exact False.elim h
theorem bop_sound {op : Operator} {x y : SV} {a b : Value} (hA : A.handled = none) (hp : TP P s.toks) (hK : bop P op x y K) (H : HS h₀ L W s.heap m F O) (rx : Rep F x a) (ry : Rep F y b) (k : KE P h₀ L W m F O s K Q) : wpAny (model PySem.Challenge.rw_wf0099_01.prog w) A (binaryOp op a b) Q E s := by
  have hI := bop_inv hK
  clear hK
  cases hI with
  | ii hK => cases rx; cases ry; (with_reducible exact bopI_sound hA hp hK H k)
  | ff hf hK => cases rx; cases ry; (with_reducible exact bopF_sound hA (hp hf) hK H k)
  | fi hf hK => cases rx; cases ry; (with_reducible exact bopG_sound hA (hp hf) hK H k)
  | ss hK =>
    cases rx; cases ry
    refine wpAny_up ?_
    (with_reducible refine PyProof.Rows.add_str ?_ ?_)
    · exact fun _ _ hl => k.now (tp_le hp hl) H hK.2 (.str _ _)
    · exact hK.1
  | si hK =>
    cases rx; cases ry
    refine wpAny_up ?_
    (with_reducible refine PySem.SB.mul ?_ ?_)
    · exact hK.1
    · exact fun _ _ hl => k.now (tp_le hp hl) H hK.2 (.str _ _)
inductive CmpIs (K : Bool → Prop) : CmpOp → SV → SV → Prop
  | fe {a b} : K (Float64.cmp a b == some .eq) → CmpIs K .Eq (.flt a) (.flt b)
  | fl {a b} : K (Float64.cmp a b == some .lt || Float64.cmp a b == some .eq) → CmpIs K .LtE (.flt a) (.flt b)
  | ie {a b : Int} : K (a == b) → CmpIs K .Eq (.int a) (.int b)
  | se {a b : PySem.Str} : K (a == b) → CmpIs K .Eq (.str a) (.str b)
theorem cmp_inv {op : CmpOp} {x y : SV} {K : Bool → Prop} (h : cmpop op x y K) : CmpIs K op x y := by
  cases x
  case int =>
    cases y
    case int => cases op <;> first | exact .ie h | exact False.elim h
    all_goals exact False.elim h
  case flt =>
    cases y
    case flt => cases op <;> first | exact .fe h | exact .fl h | exact False.elim h
    all_goals exact False.elim h
  case str =>
    cases y
    case str => cases op <;> first | exact .se h | exact False.elim h
    all_goals exact False.elim h
  all_goals exact False.elim h
/-- a comparison makes nothing -/
theorem cmp_sound {op : CmpOp} {x y : SV} {a b : Value} {K : Bool → Prop} (hK : cmpop op x y K) (rx : Rep F x a) (ry : Rep F y b) (k : ∀ c, K c → Q (.bool c) s) : wpAny (model PySem.Challenge.rw_wf0099_01.prog w) A (compareOp op a b) Q E s := by
  have hI := cmp_inv hK
  clear hK
  cases hI with
  | fe hK => cases rx; cases ry; (with_reducible refine AutoFloatOps.eq_0 ?_); exact k _ hK
  | fl hK => cases rx; cases ry; (with_reducible refine AutoFloatOps.le_0 ?_); exact k _ hK
  | ie hK => cases rx; cases ry; (with_reducible refine PyProof.Rows.eq_int ?_); exact k _ hK
  | se hK => cases rx; cases ry; (with_reducible refine PyProof.Rows.eq_str ?_); exact k _ hK
theorem cmp_plain {op : CmpOp} (h : plainCmp op = true) (e : PySem.Expr) : behindInMarks op e = false := by
  cases e
  case Set elts k p =>
    have z : ∀ b c : Bool, (b && false && c) = false := by decide
    cases op
    case In => cases h
    case NotIn => cases h
    all_goals exact z _ _
  all_goals rfl
theorem led_item {value slice : PySem.Expr} {D : Addr} {vs : List Value} {c : String} {n k : Nat} {u : Tok} {x : Value} (hc : c = "list" ∨ c = "tuple") (N : News h₀ L s.heap F) (hm : (D, ({ cls := .type c, data := .seq vs.toArray n } : Obj)) ∈ F) (hz : k < 100) (hj : vs[k]? = some x) (h : Q x s)
    (hs : ∀ a b c p, slice ≠ .Slice a b c p) : wpAny (model PySem.Challenge.rw_wf0099_01.prog w) A (subscriptTail value slice (.ref D) (.int (k : Int) u)) Q E s := by
  have hlt : k < vs.length := (List.getElem?_eq_some_iff.mp hj).1
  rcases hc with rfl | rfl
  · have hl : s.heap.IsList D vs.toArray := ⟨_, (N _ hm).1, rfl, _, rfl⟩
    (with_reducible refine tail_any hl.typeIs slot_list_getitem.lookup ?_ (sub_plain hs _ _)); (with_reducible refine wpAny_getItem_list hl ?_ ?_ (x := x) ?_ h); omega; omega; simpa using hj
  · have ht : IsTup s.heap D vs.toArray := ⟨_, (N _ hm).1, rfl, _, rfl⟩
    (with_reducible refine item_tupleT (j := k) (x := x) ht ?_ ?_ ?_ hj h (sub_plain hs _ _)); omega; omega
    unfold seqIndex?
    split <;> rename_i q
    · omega
    · dsimp only
      split <;> rename_i q'
      · simp
      · exfalso; revert q'; simp; omega
theorem idx_sound {value slice : PySem.Expr} {D : Addr} {vs : List Value} {l : List SV} {c : String} {n : Nat} {i : SV} {iv : Value} (hc : c = "list" ∨ c = "tuple") {G : Led} (N : News h₀ L s.heap G) (hm : (D, ({ cls := .type c, data := .seq vs.toArray n } : Obj)) ∈ G) (hK : idx l i K) (ri : Rep F i iv) (rl : Reps F l vs) (hs : ∀ a b c p, slice ≠ .Slice a b c p)
    (hp : TP P s.toks) (H : HS h₀ L W s.heap m F O) (k : KE P h₀ L W m F O s K Q) : wpAny (model PySem.Challenge.rw_wf0099_01.prog w) A (subscriptTail value slice (.ref D) iv) Q E s := by
  unfold idx at hK
  split at hK
  · split at hK
    · rename_i e1 e2
      cases ri
      obtain ⟨v, h1, h2⟩ := rl.get _ e2
      (show wpAny _ _ (subscriptTail _ _ (Value.ref _) (Value.int (Nat.cast _) _)) _ _ _); (with_reducible refine led_item hc N hm (Nat.blt_eq.mp e1) h1 ?_ hs); exact k.now (tk := s.toks) hp H hK h2
    · (exfalso; exact hK)
  · (exfalso; exact hK)
end
end Mine
end
section
open PySem PySem.W PyProof.Rows PySem.Spec PySem.Calls
set_option Elab.async false
set_option maxRecDepth 100000
namespace Mine
section
variable {w : World} {mean : ExcName → Option Value} {mg mb : PySem.Str → Option Value} {dp un : Nat} {gd : Option (List Code)} {cn : PySem.Str} {cs : Scope} {a : Addr} {ccd : Value} {cl : List (PySem.Str × Addr)} {outer : List Env} {h₀ : Heap} {L : Addr} {W : Led} {m : PySem.Str → Option Value} {F : Led} {O : Own} {s : Shared} {ow : Ow} {σ : Vs} {P : Par} {E : Value → Shared → Prop}
noncomputable def GlOK (w : World) (gl : PySem.Str → Option Value) : Prop := ∀ x v, gl x = some v → (nsIn (KF w.params) mainGlobals x = some (some v) ∧ keepIn (KF w.params) v = true) ∨ (nsIn (KF w.params) mainGlobals x = some none ∧ bootBuiltins x = some v ∧ x ≠ "__name__" ∧ ∀ b, v ≠ .ref b)
/-- what is shown of expressions of smaller fuel -/
noncomputable def EvOK (w : World) (A : Around) (env : Env) (h₀ : Heap) (L : Addr) (W : Led) (P : Par) (m : PySem.Str → Option Value) (O : Own) (ow : Ow) (σ : Vs) (ev : PySem.Expr → (SV → Prop) → Prop) : Prop :=
  ∀ e K F (s : Shared) Q E, ev e K → TP P s.toks → HS h₀ L W s.heap m F O → Vars F (rdv P m) σ → OwnR F m ow O → KE P h₀ L W m F O s K Q → wpAny (model PySem.Challenge.rw_wf0099_01.prog w) A (eval e env) Q E s
structure ParOK (P : Par) (w : World) (A : Around) (env : Env) (h₀ : Heap) (L : Addr) (W : Led) : Prop where
  kd : ∀ x k, P.kd x = some k → env.kindOf x = some k ∧ (x == ("__debug__" : PySem.Str)) = false
  gl : GlOK w P.gl
  cv : ∀ x v, P.cv x = some v → ∃ c o, env.cells.lookup x = some c ∧ (c, o) ∈ W ∧ o.data = .cell (some v) ∧ (x == ("__classdict__" : PySem.Str)) = false
  cm : ∀ (W : Led) op x y K u v m F O (s : Shared) Q E, P.cm op x y K → HS h₀ L W s.heap m F O → Rep F x u → Rep F y v → (∀ c, K c → Q (.bool c) s) → wpAny (model PySem.Challenge.rw_wf0099_01.prog w) A (compareOp op u v) Q E s
  us : ∀ (W : Led) f l K vs m F O (s : Shared) Q E, P.us f l K → TP P s.toks → HS h₀ L W s.heap m F O → Reps F l vs → KE P h₀ L W m F O s K Q → wpAny (model PySem.Challenge.rw_wf0099_01.prog w) A (call f vs) Q E s
  xe : ∀ (W : Led) ev e K m F O ow σ (s : Shared) Q E, P.xo e = true → EvOK w A env h₀ L W P m O ow σ ev → P.xe ev e K → TP P s.toks → HS h₀ L W s.heap m F O → Vars F (rdv P m) σ → OwnR F m ow O → KE P h₀ L W m F O s K Q → wpAny (model PySem.Challenge.rw_wf0099_01.prog w) A (eval e env) Q E s
theorem ParOK.more {P : Par} {A : Around} {env : Env} {W W' : Led} (ok : ParOK P w A env h₀ L W) (hs : ∀ p ∈ W, p ∈ W') : ParOK P w A env h₀ L W' :=
  ⟨ok.kd, ok.gl, fun x v e => let ⟨c, o, h1, h2, h3, h4⟩ := ok.cv x v e; ⟨c, o, h1, hs _ h2, h3, h4⟩, ok.cm, ok.us, ok.xe⟩
theorem cG_sound (ok : ParOK P w (ktrTop dp un gd cn cs L a ccd cl outer) (envX cn cs L a ccd cl) h₀ L W) (hk : cs.kind = .function) (X : (KF w.params).In h₀) (T : Top QV LO mean mg mb h₀) {x : PySem.Str} {pos : Pos} {K : Value → Prop} {Q : Value → Shared → Prop}
    (hK : cG P x K) (H : HS h₀ L W s.heap m F O) (k : ∀ v, K v → (∀ b, v = .ref b → keepIn (KF w.params) (.ref b) = true) → Q v s) : wpAny (model PySem.Challenge.rw_wf0099_01.prog w) (ktrTop dp un gd cn cs L a ccd cl outer) (eval (.Name x pos) (envX cn cs L a ccd cl)) Q E s := by
  unfold cG at hK
  split at hK
  · rename_i e
    split at hK
    · rename_i v e2
      rcases ok.gl _ _ e2 with h | h
      · (with_reducible refine nameX_K H.fr X (topRead_of T) h.1 ?_ hk (ok.kd _ _ e).1 (ok.kd _ _ e).2)
        exact k v hK fun b hb => by cases hb; exact h.2
      · (with_reducible refine nameX_B H.fr X (topRead_of T) h.1 h.2.1 h.2.2.1 ?_ hk (ok.kd _ _ e).1 (ok.kd _ _ e).2)
        exact k v hK fun b hb => by cases hb; exact absurd rfl (h.2.2.2 b)
    · exact hK.elim
  · exact hK.elim
theorem cN_sound (ok : ParOK P w (ktrTop dp un gd cn cs L a ccd cl outer) (envX cn cs L a ccd cl) h₀ L W) (hk : cs.kind = .function) (X : (KF w.params).In h₀) (T : Top QV LO mean mg mb h₀) {x : PySem.Str} {pos : Pos} {K : SV → Prop} {Q : Value → Shared → Prop}
    (hK : cN P σ x K) (H : HS h₀ L W s.heap m F O) (hV : Vars F (rdv P m) σ) (k : ∀ v sv, K sv → Rep F sv v → Q v s) : wpAny (model PySem.Challenge.rw_wf0099_01.prog w) (ktrTop dp un gd cn cs L a ccd cl outer) (eval (.Name x pos) (envX cn cs L a ccd cl)) Q E s := by
  by_cases hg : P.kd x = some .globalImplicit
  · have hG : cG P x fun v => K (.raw v) := by
      unfold cN at hK; unfold cG; rw [hg] at hK ⊢; exact hK
    (with_reducible refine cG_sound ok hk X T hG H ?_)
    exact fun v hv _ => k v _ hv (.raw v)
  · unfold cN at hK
    split at hK
    · rename_i e
      split at hK
      · rename_i e2
        obtain ⟨v, h1, h2⟩ := hV _ _ e2
        unfold rdv at h1; rw [e] at h1
        (with_reducible refine nameX_L H.fr h1 ?_ hk (ok.kd _ _ e).1 (ok.kd _ _ e).2)
        exact k v _ hK h2
      · exact hK.elim
    · rename_i e
      split at hK
      · rename_i e2
        obtain ⟨v, h1, h2⟩ := hV _ _ e2
        unfold rdv at h1; rw [e] at h1
        obtain ⟨c, o, h3, h4, h5, h6⟩ := ok.cv _ _ h1
        (with_reducible refine nameX_C H.nw h3 ?_ h5 ?_ hk (ok.kd _ _ e).1 (ok.kd _ _ e).2)
        · simp [h4]
        · exact k v _ hK h2
      · exact hK.elim
    · rename_i e; exact absurd e hg
    · exact hK.elim
theorem cC_sound {c : Const} {n : Nat} {pos : Pos} {K : SV → Prop} {Q : Value → Shared → Prop} (hK : cC P c K) (hp : TP P s.toks) (H : HS h₀ L W s.heap m F O) (k : KE P h₀ L W m F O s K Q) : wpAny (model PySem.Challenge.rw_wf0099_01.prog w) (ktrTop dp un gd cn cs L a ccd cl outer) (eval (.Constant c n pos) (envX cn cs L a ccd cl)) Q E s := by
  cases c
  case int => (with_reducible refine wpAny_Constant_int ?_); exact k.now tp_succ H hK (.int _ _)
  case float =>
    replace hK : (match P.fl with | true => K (.flt _) | false => False) := hK
    split at hK
    · rename_i hf
      (with_reducible refine wpAny_Constant_float ?_)
      exact k.now tp_succ H hK (.flt _ _ (hp hf))
    · exfalso; exact hK
  case str => (with_reducible refine PySem.Calls.Constant_str ?_); exact k.now tp_succ H hK (.str _ _)
  all_goals (exfalso; exact hK)
theorem gA_sound {A : Around} {env : Env} {ev : PySem.Expr → (SV → Prop) → Prop} (hev : EvOK w A env h₀ L W P m O ow σ ev) {pos : Pos} : ∀ {es : List PySem.Expr} {K : List SV → Prop} {F : Led} {s : Shared} {Q : List Value → Shared → Prop}, es.all unstar = true → gA ev es K → TP P s.toks → HS h₀ L W s.heap m F O → Vars F (rdv P m) σ → OwnR F m ow O → KA P h₀ L W m F O s K Q →
    wpAny (model PySem.Challenge.rw_wf0099_01.prog w) A (spliced (backTo pos (starEach es env))) Q E s
  | [], K, F, s, Q, _, hK, hp, H, _, _, k => by
    (with_reducible refine args_nil ?_)
    exact k [] s.heap s.toks [] [] hp H aprt_nil hK .nil
  | e :: es, K, F, s, Q, hs, hK, hp, H, hV, hO, k => by
    rw [List.all_cons, Bool.and_eq_true] at hs
    (with_reducible refine args_cons ?_ (star_cons hs.1))
    refine hev e _ F s _ E hK hp H hV hO ?_
    intro v h' tk tl sv hp' H' ap hK' r
    refine gA_sound hev hs.2 hK' hp' H' (hV.mono sub_app) (hO.mono sub_app) ?_
    intro vs h2 tk2 tl2 l hp2 H2 ap2 hK2 r2
    exact k (v :: vs) h2 tk2 (tl2 ++ tl) (sv :: l) hp2 (by rw [List.append_assoc]; exact H2) (ap.app ap2) hK2 (.cons (by rw [List.append_assoc]; exact r.mono sub_app) (by rw [List.append_assoc]; exact r2))
theorem HS.news {h : Heap} (H : HS h₀ L W h m F O) : News h₀ L h F := fun p hp => H.nw p (by simp [hp])
theorem newTup_sound {A : Around} {vs : List Value} {l : List SV} {K : SV → Prop} {Q : Value → Shared → Prop} (hz : vs.length < 100) (hK : K (.tup l)) (r : Reps F l vs) (hp : TP P s.toks) (H : HS h₀ L W s.heap m F O) (k : KE P h₀ L W m F O s K Q) : wpAny (model PySem.Challenge.rw_wf0099_01.prog w) A (newTuple vs) Q E s := by
  (with_reducible refine kup_newTuple H.fr H.nw ?_ ?_)
  · intro D h' F' N' hl
    have H' := H.alloc F' N' (fun p hp => Nat.ne_of_lt (hl p hp))
    exact k (.ref D) h' s.toks [(D, oTup vs)] (.tup l) hp H' (fun q hq p hp => by
      cases hp with
      | head => exact Nat.ne_of_lt (hl q (by simp [hq]))
      | tail _ h => cases h) hK (.tup D vs l (.head _) (r.mono fun p hp => .tail _ hp))
  · exact Nat.le_trans (Nat.le_of_lt hz) (by decide)
theorem newLst_sound {A : Around} {vs : List Value} {l : List SV} {K : SV → Prop} {Q : Value → Shared → Prop} (hz : vs.length < 100) (hK : K (.lst l)) (r : Reps F l vs) (hp : TP P s.toks) (H : HS h₀ L W s.heap m F O) (k : KE P h₀ L W m F O s K Q) : wpAny (model PySem.Challenge.rw_wf0099_01.prog w) A (newList vs) Q E s := by
  (with_reducible refine newList_K H.fr H.nw ?_ ?_)
  · intro D h' F' N' hl
    have H' := H.alloc F' N' (fun p hp => Nat.ne_of_lt (hl p hp))
    exact k (.ref D) h' s.toks [(D, PySem.W.listOf vs.toArray 0)] (.lst l) hp H' (fun q hq p hp => by
      cases hp with
      | head => exact Nat.ne_of_lt (hl q (by simp [hq]))
      | tail _ h => cases h) hK (.lst D vs l 0 (.head _) (r.mono fun p hp => .tail _ hp))
  · exact Nat.le_trans (Nat.le_of_lt hz) (by decide)
end
end Mine
end
section
open PySem PySem.W PyProof.Rows PySem.Spec PySem.Calls
set_option Elab.async false
set_option maxRecDepth 100000
namespace Mine
section
variable {w : World} {mean : ExcName → Option Value} {mg mb : PySem.Str → Option Value} {dp un : Nat} {gd : Option (List Code)} {cn : PySem.Str} {cs : Scope} {a : Addr} {ccd : Value} {cl : List (PySem.Str × Addr)} {outer : List Env} {h₀ : Heap} {L : Addr} {W : Led} {m : PySem.Str → Option Value} {F : Led} {O : Own} {s : Shared} {ow : Ow} {σ : Vs} {P : Par} {E : Value → Shared → Prop}
theorem Call_name {M : Model} {A : Around} {f : PySem.Str} {fp : Pos} {args : List PySem.Expr} {pos : Pos} {env : Env} {Q : Value → Shared → Prop}
    (h : wpAny M A (eval (.Name f fp) env) (fun f s₁ => wpAny M A (callWith pos f [] (backTo pos (starEach args env)) []) Q E s₁) E s) : wpAny M A (eval (.Call (.Name f fp) args [] pos) env) Q E s :=
  PyProof.Rows.Call_ h (by with_unfolding_all rfl)
theorem gC_sound (ok : ParOK P w (ktrTop dp un gd cn cs L a ccd cl outer) (envX cn cs L a ccd cl) h₀ L W) (X : (KF w.params).In h₀) {pos : Pos} {f : Value} {ev : PySem.Expr → (SV → Prop) → Prop} (hev : EvOK w (ktrTop dp un gd cn cs L a ccd cl outer) (envX cn cs L a ccd cl) h₀ L W P m O ow σ ev) {e : PySem.Expr} {es : List PySem.Expr} {K : SV → Prop} {Q : Value → Shared → Prop}
    (hkeep : ∀ b, f = .ref b → keepIn (KF w.params) (.ref b) = true) (hs : (e :: es).all unstar = true) (hf : okF f = true) (hK : gA ev (e :: es) fun l => P.us f l K) (hp : TP P s.toks) (H : HS h₀ L W s.heap m F O) (hV : Vars F (rdv P m) σ) (hO : OwnR F m ow O) (k : KE P h₀ L W m F O s K Q) :
    wpAny (model PySem.Challenge.rw_wf0099_01.prog w) (ktrTop dp un gd cn cs L a ccd cl outer) (callWith pos f [] (backTo pos (starEach (e :: es) (envX cn cs L a ccd cl))) []) Q E s := by
  have hs2 := hs
  rw [List.all_cons, Bool.and_eq_true] at hs2
  have go : ∀ (f : Value), (gA ev (e :: es) fun l => P.us f l K) → ∀ {R : List Value → Shared → Prop}, (∀ vs s', (∃ h' tk, s' = { s with heap := h', toks := tk } ∧ Fr h₀ L h' m) → wpAny (model PySem.Challenge.rw_wf0099_01.prog w) (ktrTop dp un gd cn cs L a ccd cl outer) (call f vs) Q E s' → R vs s') → wpAny (model PySem.Challenge.rw_wf0099_01.prog w) (ktrTop dp un gd cn cs L a ccd cl outer) (spliced (backTo pos (starEach (e :: es) (envX cn cs L a ccd cl)))) R E s := by
    intro f hK R hR
    refine gA_sound hev hs hK hp H hV hO ?_
    intro vs h' tk tl l hp' H' ap hK' r
    refine hR vs _ ⟨h', tk, rfl, H'.fr⟩ ?_
    exact ok.us W f l K vs m (tl ++ F) O _ Q E hK' hp' H' r (k.step ap)
  cases f
  case builtin b =>
    (with_reducible refine PyProof.Rows.callWith_builtin1 ?_ (star_cons hs2.1) (star_any hs2.2))
    exact go _ hK fun vs s' _ h => h
  case type b =>
    (with_reducible refine PySem.Pv.callWith_type1 ?_ (star_cons hs2.1) (star_any hs2.2))
    exact go _ hK fun vs s' _ h => h
  case ref b =>
    (with_reducible refine callWith_K X (hkeep b rfl) ?_ (star_cons hs2.1) (star_any hs2.2))
    refine go _ hK fun vs s' hs' h => ⟨?_, h⟩
    obtain ⟨h', tk, rfl, fr⟩ := hs'
    exact Frag.In.keeps X fr.keep
  all_goals cases hf
theorem cmpP_sound (ok : ParOK P w (ktrTop dp un gd cn cs L a ccd cl outer) (envX cn cs L a ccd cl) h₀ L W) {op : CmpOp} {x y : SV} {u v : Value} {K : Bool → Prop} {Q : Value → Shared → Prop} (hK : cmpP P op x y K) (H : HS h₀ L W s.heap m F O) (rx : Rep F x u) (ry : Rep F y v) (k : ∀ c, K c → Q (.bool c) s) : wpAny (model PySem.Challenge.rw_wf0099_01.prog w) (ktrTop dp un gd cn cs L a ccd cl outer) (compareOp op u v) Q E s := by
  unfold cmpP at hK
  split at hK
  · exact ok.cm _ _ _ _ _ _ _ _ _ _ _ _ _ hK H rx ry k
  · exact ok.cm _ _ _ _ _ _ _ _ _ _ _ _ _ hK H rx ry k
  · exact cmp_sound hK rx ry k
theorem ownOf_some {ow : Ow} {e : PySem.Expr} {l : List SV} (h : ownOf ow e = some l) : ∃ x p, e = .Name x p ∧ ow.lookup x = some l := by
  unfold ownOf at h
  cases hn : nameOf e with
  | none => rw [hn] at h; cases h
  | some x =>
    rw [hn] at h
    obtain ⟨p, rfl⟩ := nameOf_some hn
    exact ⟨x, p, rfl, h⟩
theorem divC_some {op : Operator} {r : PySem.Expr} {k : Int} (h : divC P op r = some k) : op = .Div ∧ ∃ n p, r = .Constant (.int k) n p := by
  unfold divC at h
  cases hf : P.fl with
  | true => rw [hf] at h; cases h
  | false =>
    rw [hf] at h
    cases hd : isDivO op with
    | false => rw [hd] at h; cases h
    | true => rw [hd] at h; exact ⟨isDivO_t hd, cintOf_some h⟩
theorem gE_sound (ok : ParOK P w (ktrTop dp un gd cn cs L a ccd cl outer) (envX cn cs L a ccd cl) h₀ L W) (hk : cs.kind = .function) (X : (KF w.params).In h₀) (T : Top QV LO mean mg mb h₀) (hown : ∀ x l, ow.lookup x = some l → P.kd x = some .local) : ∀ n, EvOK w (ktrTop dp un gd cn cs L a ccd cl outer) (envX cn cs L a ccd cl) h₀ L W P m O ow σ (gE P ow σ n) := by
  intro n
  induction n with
  | zero => intro e K F s Q E hK; exact hK.elim
  | succ n ih =>
    intro e K F s Q E hK hp H hV hO k
    have hA : Around.handled (ktrTop dp un gd cn cs L a ccd cl outer) = none := rfl
    cases hx : P.xo e with
    | true => exact ok.xe W _ e K m F O ow σ s Q E hx ih (gEs_t hx hK) hp H hV hO k
    | false =>
    replace hK := gEs_f hx hK
    clear hx
    cases e
    case Name x pos =>
      refine cN_sound ok hk X T (K := K) hK H hV fun v sv h r => ?_
      exact k.now (tk := s.toks) hp H h r
    case Constant c kk pos => exact cC_sound hK hp H k
    case BinOp l op r pos =>
      replace hK : (match divC P op r with
        | some k => gE P ow σ n l fun a => (match a with | .int a => (k ≠ 0 ∧ a.natAbs < 2 ^ 1023) ∧ K (.flt (Float64.ofFrac (decide (a < 0) != decide (k < 0)) a.natAbs k.natAbs)) | _ => False)
        | none => gE P ow σ n l fun a => gE P ow σ n r fun b => bop P op a b K) := hK
      (with_reducible refine wpAny_BinOp ?_)
      split at hK
      · rename_i kk hd
        obtain ⟨rfl, kn, kp, rfl⟩ := divC_some hd
        refine ih l _ F s _ E hK hp H hV hO ?_
        intro v h' tk tl sv hp' H' ap hK' rv
        cases rv
        case int =>
          (with_reducible refine wpAny_Constant_int ?_)
          (with_reducible refine PySem.Flt.div_ii_fits hA ?_ ?_ ?_)
          · exact hK'.1.2
          · exact fun e => absurd e hK'.1.1
          · exact fun _ _ => (k.step ap).now tp_succ H' hK'.2 (.flt _ _ (Nat.succ_pos _))
        all_goals (exfalso; exact hK')
      · refine ih l _ F s _ E hK hp H hV hO ?_
        intro v h' tk tl sv hp' H' ap hK' rv
        refine ih r _ _ _ _ E hK' hp' H' (hV.mono sub_app) (hO.mono sub_app) ?_
        intro v2 h2 tk2 tl2 sv2 hp2 H2 ap2 hK2 rv2
        exact bop_sound hA hp2 hK2 H2 (rv.mono sub_app) rv2 ((k.step ap).step ap2)
    case UnaryOp op x pos =>
      cases op
      case USub =>
        (with_reducible refine UnaryOp_ ?_)
        refine ih x _ F s _ E hK hp H hV hO ?_
        intro v h' tk tl sv hp' H' ap hK' rv
        cases rv
        case int => (with_reducible refine PyProof.Rows.neg_int ?_); exact (k.step ap).now tp_succ H' hK' (.int _ _)
        all_goals (exfalso; exact hK')
      all_goals (exfalso; exact hK)
    case Compare l ops rs pos =>
      rcases ops with _ | ⟨op, _ | ⟨op2, ops⟩⟩
      · exfalso; exact hK
      · rcases rs with _ | ⟨r, _ | ⟨r2, rs⟩⟩
        · exfalso; exact hK
        · have hK : (match plainCmp op with
            | true => gE P ow σ n l fun a => gE P ow σ n r fun b => cmpP P op a b fun c => K (.bool c)
            | false => False) := hK
          split at hK
          · rename_i hpc
            (with_reducible refine wpAny_Compare1 ?_ (cmp_plain hpc r))
            refine ih l _ F s _ E hK hp H hV hO ?_
            intro v h' tk tl sv hp' H' ap hK' rv
            refine ih r _ _ _ _ E hK' hp' H' (hV.mono sub_app) (hO.mono sub_app) ?_
            intro v2 h2 tk2 tl2 sv2 hp2 H2 ap2 hK2 rv2
            refine cmpP_sound ok hK2 H2 (rv.mono sub_app) rv2 fun c hc => ?_
            exact ((k.step ap).step ap2).now hp2 H2 hc (.bool c)
          · exfalso; exact hK
        · exfalso; exact hK
      · exfalso; exact hK
    case Tuple elts kk pos =>
      replace hK : (match elts.all unstar with | true => gA (gE P ow σ n) elts fun l => (match Nat.blt l.length 100 with | true => K (.tup l) | false => False) | false => False) := hK
      split at hK
      · rename_i hs
        (with_reducible refine Tuple_ ?_)
        refine gA_sound ih hs hK hp H hV hO ?_
        intro vs h' tk tl l hp' H' ap hK' r
        split at hK'
        · rename_i hz
          exact newTup_sound (r.length ▸ Nat.blt_eq.mp hz) hK' r hp' H' (k.step ap)
        · exfalso; exact hK'
      · exfalso; exact hK
    case List elts pos =>
      replace hK : (match elts.all unstar with | true => gA (gE P ow σ n) elts fun l => (match Nat.blt l.length 100 with | true => K (.lst l) | false => False) | false => False) := hK
      split at hK
      · rename_i hs
        (with_reducible refine List_ ?_)
        refine gA_sound ih hs hK hp H hV hO ?_
        intro vs h' tk tl l hp' H' ap hK' r
        split at hK'
        · rename_i hz
          exact newLst_sound (r.length ▸ Nat.blt_eq.mp hz) hK' r hp' H' (k.step ap)
        · exfalso; exact hK'
      · exfalso; exact hK
    case Subscript value slice pos =>
      replace hK : (match ownOf ow value with
        | some l => gE P ow σ n slice fun i => idx l i K
        | none => gE P ow σ n value fun o => gE P ow σ n slice fun i => (match o with | .tup l => idx l i K | .lst l => idx l i K | _ => False)) := hK
      (with_reducible refine Subscript_ ?_)
      split at hK
      · rename_i l ho
        obtain ⟨x, p, rfl, hx⟩ := ownOf_some ho
        obtain ⟨D, vs, c, h1, h2, h3⟩ := hO.get hx
        have kd := ok.kd _ _ (hown _ _ hx)
        (with_reducible refine nameX_L H.fr h1 ?_ hk kd.1 kd.2)
        refine ih slice _ F s _ E hK hp H hV hO ?_
        intro v h' tk tl sv hp' H' ap hK' rv
        refine idx_sound (c := "list") (n := c) (vs := vs) (.inl rfl) H'.nw ?_ hK' rv (h2.mono sub_app) (gE_slice hK) hp' H' (k.step ap)
        exact List.mem_append.mpr (.inl (List.mem_map_of_mem (f := oOwn) h3))
      · refine ih value _ F s _ E hK hp H hV hO ?_
        intro v h' tk tl sv hp' H' ap hK' rv
        refine ih slice _ _ _ _ E hK' hp' H' (hV.mono sub_app) (hO.mono sub_app) ?_
        intro v2 h2 tk2 tl2 sv2 hp2 H2 ap2 hK2 rv2
        cases rv
        case tup D vs l hm hr => exact idx_sound (c := "tuple") (vs := vs) (.inr rfl) H2.news (sub_app _ hm) hK2 rv2 (hr.mono sub_app) (gE_slice hK') hp2 H2 ((k.step ap).step ap2)
        case lst D vs l c hm hr => exact idx_sound (c := "list") (n := c) (vs := vs) (.inl rfl) H2.news (sub_app _ hm) hK2 rv2 (hr.mono sub_app) (gE_slice hK') hp2 H2 ((k.step ap).step ap2)
        all_goals (exfalso; exact hK2)
    case Call func args kws pos =>
      cases func
      case Name f fp =>
        rcases args with _ | ⟨e, es⟩
        · exfalso; exact hK
        · rcases kws with _ | ⟨kw, kws⟩
          · have hK : (match (e :: es).all unstar with
              | true => cG P f fun f => (match okF f with | true => gA (gE P ow σ n) (e :: es) fun l => P.us f l K | false => False)
              | false => False) := hK
            split at hK
            · rename_i hs
              (with_reducible refine Call_name ?_)
              refine cG_sound ok hk X T hK H ?_
              intro v hv hkeep
              split at hv
              · rename_i hf
                exact gC_sound ok X ih hkeep hs hf hv hp H hV hO k
              · exfalso; exact hv
            · exfalso; exact hK
          · exfalso; exact hK
      all_goals (exfalso; exact hK)
    all_goals (exfalso; exact hK)
end
end Mine
end
section
open PySem PySem.W PyProof.Rows PySem.Spec PySem.Calls
set_option Elab.async false
set_option maxRecDepth 100000
namespace Mine
noncomputable def gOr (tE : PySem.Expr → (Bool → Prop) → Prop) (es : List PySem.Expr) : (Bool → Prop) → Prop :=
  @List.rec PySem.Expr (fun _ => (Bool → Prop) → Prop) (fun K => K false) (fun x _ ih K => tE x fun c => (c = true → K true) ∧ (c = false → ih K)) es
noncomputable def gTs (P : Par) (ow : Ow) (σ : Vs) (n : Nat) (tE : PySem.Expr → (Bool → Prop) → Prop) (e : PySem.Expr) (K : Bool → Prop) : Prop := match e with
    | .Compare l [op] [r] _ => (match plainCmp op with
      | true => gE P ow σ n l fun a => gE P ow σ n r fun b => cmpP P op a b K
      | false => False)
    | .BoolOp .Or es _ => gOr tE es K
    | .Call f as kws p => gE P ow σ n (.Call f as kws p) fun v => (match v with | .bool b => K b | _ => False)
    | _ => False
noncomputable def gT (P : Par) (ow : Ow) (σ : Vs) (n : Nat) : PySem.Expr → (Bool → Prop) → Prop :=
  @Nat.rec (fun _ => PySem.Expr → (Bool → Prop) → Prop) (fun _ _ => False) (fun n ih => gTs P ow σ n ih) n
noncomputable abbrev KT := Option SV → Ow → Vs → Prop
noncomputable def emptyL : PySem.Expr → Bool
  | .List [] _ => true
  | _ => false
noncomputable def unpk (P : Par) (ow : Ow) (es : List PySem.Expr) : List SV → Vs → (Vs → Prop) → Prop :=
  @List.rec PySem.Expr (fun _ => List SV → Vs → (Vs → Prop) → Prop) (fun vs σ K => match vs with | [] => K σ | _ :: _ => False)
    (fun e _ ih vs σ K => match vs with
      | [] => False
      | v :: vs => (match nameOf e with
        | some x => (match locF P ow x with | true => ih vs ((x, v) :: σ) K | false => False)
        | none => False)) es
theorem unpk_cons {P : Par} {ow : Ow} {e : PySem.Expr} {es : List PySem.Expr} {v : SV} {vs : List SV} {σ : Vs} {K : Vs → Prop} (h : unpk P ow (e :: es) (v :: vs) σ K) : ∃ x p, e = .Name x p ∧ P.kd x = some .local ∧ ow.lookup x = none ∧ unpk P ow es vs ((x, v) :: σ) K := by
  replace h : (match nameOf e with
        | some x => (match locF P ow x with | true => unpk P ow es vs ((x, v) :: σ) K | false => False)
        | none => False) := h
  cases hn : nameOf e with
  | none => rw [hn] at h; exact h.elim
  | some x =>
    rw [hn] at h
    replace h : (match locF P ow x with | true => unpk P ow es vs ((x, v) :: σ) K | false => False) := h
    cases hl : locF P ow x with
    | false => rw [hl] at h; exact h.elim
    | true =>
      rw [hl] at h
      obtain ⟨p, rfl⟩ := nameOf_some hn
      exact ⟨x, p, rfl, (locF_t hl).1, (locF_t hl).2, h⟩
noncomputable def gFor (bd : List Stmt → Ow → Vs → KT → Prop) (x : PySem.Str) (body : List Stmt) (l : List SV) : Ow → Vs → KT → Prop :=
  @List.rec SV (fun _ => Ow → Vs → KT → Prop) (fun ow σ K => K none ow σ) (fun v _ ih ow σ K => (match ow.lookup x with
    | none => bd body ow ((x, v) :: σ) fun res ow' σ' => (match res with | none => ih ow' σ' K | some u => K (some u) ow' σ')
    | some _ => False)) l
noncomputable def rngL (k : Nat) : List SV := (List.range k).map fun i => .int (Int.ofNat i)
noncomputable def tupE : PySem.Expr → Bool
  | .Tuple .. => true
  | _ => false
noncomputable def gIter (P : Par) (ow : Ow) (σ : Vs) (n : Nat) : PySem.Expr → (List SV → Prop) → Prop
  | .Tuple elts _ _, K => (match elts.all unstar with | true => gA (gE P ow σ n) elts fun l => (match Nat.blt l.length 100 with | true => K l | false => False) | false => False)
  | .Call (.Name f _) [.Constant (.int (.ofNat k)) _ _] [] _, K => cG P f fun v => (match v with | .type t => (match t == "range", Nat.blt k 100 with | true, true => K (rngL k) | _, _ => False) | _ => False)
  | _, _ => False
noncomputable def g1 (P : Par) (n : Nat) (bd : List Stmt → Ow → Vs → KT → Prop) (st : Stmt) (ow : Ow) (σ : Vs) (K : KT) : Prop := match st with
  | .Assign [.Name x _] e _ => (match locF P ow x with
    | true => (match emptyL e with
      | true => (match σ.lookup x with | none => K none ((x, []) :: ow) σ | some _ => False)
      | false => gE P ow σ n e fun v => K none ow ((x, v) :: σ))
    | false => False)
  | .Assign [.Tuple elts _ _] e _ => (match tupE e with | true => False | false => gE P ow σ n e fun v => (match v with | .lst l => unpk P ow elts l σ fun σ' => K none ow σ' | _ => False))
  | .AugAssign (.Name x _) .Add e _ => (match locF P ow x with
    | true => (match σ.lookup x with
      | some (.int a) => gE P ow σ n e fun v => (match v with | .int b => K none ow ((x, .int (a + b)) :: σ) | _ => False)
      | _ => False)
    | false => False)
  | .If test body orelse _ => gT P ow σ n test fun b => (b = true → bd body ow σ K) ∧ (b = false → bd orelse ow σ K)
  | .Return (some e) _ => gE P ow σ n e fun v => K (some v) ow σ
  | .Expr (.Call (.Attribute (.Name x _) at_ p2) [e] [] p3) _ => (match at_ == "append", unstar e, p2.endLine == p3.line, ow.lookup x with
    | true, true, true, some l => (match Nat.blt l.length 100 with | true => gA (gE P ow σ n) [e] fun l => (match l with | [v] => K none (updOw x v ow) σ | _ => False) | false => False)
    | _, _, _, _ => False)
  | .For (.Name x _) iter body [] _ => (match P.kd x with
    | some .local => (match P.fl with
      | false => gIter P ow σ n iter fun l => gFor bd x body l ow σ K
      | true => False)
    | _ => False)
  | _ => False
noncomputable def gSs (P : Par) (n : Nat) (bd : List Stmt → Ow → Vs → KT → Prop) (body : List Stmt) (ow : Ow) (σ : Vs) (K : KT) : Prop := match body with
  | [] => K none ow σ
  | st :: rest => g1 P n bd st ow σ fun r ow' σ' => (match r with | some v => K (some v) ow' σ' | none => bd rest ow' σ' K)
noncomputable def gS (P : Par) (n : Nat) : List Stmt → Ow → Vs → KT → Prop :=
  @Nat.rec (fun _ => List Stmt → Ow → Vs → KT → Prop) (fun _ _ _ _ => False) (fun n ih => gSs P n ih) n
inductive RetR (N : Led) : Option SV → Flow → Prop
  | next : RetR N none .next
  | ret {sv v} : Rep N sv v → RetR N (some sv) (.ret v)
noncomputable def KS (P : Par) (h₀ : Heap) (L : Addr) (W : Led) (F : Led) (s : Shared) (K : KT) (Q : Flow → Shared → Prop) : Prop :=
  ∀ h' tk m' tl O' ow' σ' r fl, TP P tk → HS h₀ L W h' m' (tl ++ F) O' → Aprt W tl → Vars (tl ++ F) (rdv P m') σ' → OwnR (tl ++ F) m' ow' O' → (∀ x l, ow'.lookup x = some l → P.kd x = some .local) → K r ow' σ' → RetR (tl ++ F) r fl → Q fl { s with heap := h', toks := tk }
theorem KS.step {P : Par} {h₀ : Heap} {L : Addr} {W F t : Led} {s : Shared} {K : KT} {Q : Flow → Shared → Prop} {h1 : Heap} {tk1 : Nat} (k : KS P h₀ L W F s K Q) (ha : Aprt W t) : KS P h₀ L W (t ++ F) { s with heap := h1, toks := tk1 } K Q :=
  fun h' tk m' tl O' ow' σ' r fl hp H a hV hO hw hK hr => k h' tk m' (tl ++ t) O' ow' σ' r fl hp (by rw [List.append_assoc]; exact H) (ha.app a) (by rw [List.append_assoc]; exact hV) (by rw [List.append_assoc]; exact hO) hw hK (by rw [List.append_assoc]; exact hr)
section
variable {w : World} {mean : ExcName → Option Value} {mg mb : PySem.Str → Option Value} {dp un : Nat} {gd : Option (List Code)} {cn : PySem.Str} {cs : Scope} {a : Addr} {ccd : Value} {cl : List (PySem.Str × Addr)} {outer : List Env} {h₀ : Heap} {L : Addr} {W : Led} {m : PySem.Str → Option Value} {F : Led} {O : Own} {s : Shared} {ow : Ow} {σ : Vs} {P : Par} {E : Value → Shared → Prop}
noncomputable def KB (P : Par) (h₀ : Heap) (L : Addr) (W : Led) (m : PySem.Str → Option Value) (F : Led) (O : Own) (s : Shared) (K : Bool → Prop) (Q : Bool → Shared → Prop) : Prop :=
  ∀ c h' tk tl, TP P tk → HS h₀ L W h' m (tl ++ F) O → Aprt W tl → K c → Q c { s with heap := h', toks := tk }
theorem KB.step {t : Led} {h1 : Heap} {tk1 : Nat} {K : Bool → Prop} {Q : Bool → Shared → Prop} (k : KB P h₀ L W m F O s K Q) (ha : Aprt W t) : KB P h₀ L W m (t ++ F) O { s with heap := h1, toks := tk1 } K Q :=
  fun v h' tk tl hp H a hk => k v h' tk (tl ++ t) hp (by rw [List.append_assoc]; exact H) (ha.app a) hk
theorem KB.now {K : Bool → Prop} {Q : Bool → Shared → Prop} (k : KB P h₀ L W m F O s K Q) {c : Bool} (hp : TP P s.toks) (H : HS h₀ L W s.heap m F O) (hk : K c) : Q c s := k c s.heap s.toks [] hp H aprt_nil hk
noncomputable def TsOK (w : World) (A : Around) (env : Env) (h₀ : Heap) (L : Addr) (W : Led) (P : Par) (m : PySem.Str → Option Value) (O : Own) (ow : Ow) (σ : Vs) (ev : PySem.Expr → (Bool → Prop) → Prop) : Prop :=
  ∀ e K F (s : Shared) (wh : Sem Value) Q E, wh = eval e env → ev e K → TP P s.toks → HS h₀ L W s.heap m F O → Vars F (rdv P m) σ → OwnR F m ow O → KB P h₀ L W m F O s K Q → wpAny (model PySem.Challenge.rw_wf0099_01.prog w) A (PySem.isTrue e env wh) Q E s
theorem isTrue_call {f : PySem.Expr} {as : List PySem.Expr} {kws : List Keyword} {p : Pos} {M : Model} {A : Around} {env : Env} {whole : Sem Value} {Q : Bool → Shared → Prop}
    (h : wpAny M A whole (fun v s₁ => wpAny M A (truthy v) Q E s₁) E s) : wpAny M A (PySem.isTrue (.Call f as kws p) env whole) Q E s := isTrue_plain h (by with_unfolding_all rfl)
theorem gOr_sound {tE : PySem.Expr → (Bool → Prop) → Prop} (ht : TsOK w (ktrTop dp un gd cn cs L a ccd cl outer) (envX cn cs L a ccd cl) h₀ L W P m O ow σ tE) {pos : Pos} {wh : Sem Value} : ∀ {es : List PySem.Expr} {K : Bool → Prop} {F : Led} {s : Shared} {Q : Bool → Shared → Prop}, gOr tE es K → TP P s.toks → HS h₀ L W s.heap m F O → Vars F (rdv P m) σ → OwnR F m ow O → KB P h₀ L W m F O s K Q →
    wpAny (model PySem.Challenge.rw_wf0099_01.prog w) (ktrTop dp un gd cn cs L a ccd cl outer) (PySem.isTrue (.BoolOp .Or es pos) (envX cn cs L a ccd cl) wh) Q E s
  | [], K, F, s, Q, hK, hp, H, _, _, k => by
    (with_reducible refine isTrue_or_nil ?_)
    exact k.now hp H hK
  | x :: r, K, F, s, Q, hK, hp, H, hV, hO, k => by
    (with_reducible refine isTrue_or ?_)
    refine ht x _ F s _ _ E rfl hK hp H hV hO ?_
    intro c h' tk tl hp' H' ap hc
    cases c with
    | true => exact (k.step ap).now hp' H' (hc.1 rfl)
    | false => exact gOr_sound ht (hc.2 rfl) hp' H' (hV.mono sub_app) (hO.mono sub_app) (k.step ap)
theorem gT_sound (ok : ParOK P w (ktrTop dp un gd cn cs L a ccd cl outer) (envX cn cs L a ccd cl) h₀ L W) (hk : cs.kind = .function) (X : (KF w.params).In h₀) (T : Top QV LO mean mg mb h₀) (hown : ∀ x l, ow.lookup x = some l → P.kd x = some .local) : ∀ n, TsOK w (ktrTop dp un gd cn cs L a ccd cl outer) (envX cn cs L a ccd cl) h₀ L W P m O ow σ (gT P ow σ n) := by
  intro n
  induction n with
  | zero => intro e K F s wh Q E _ hK; exact hK.elim
  | succ n ih =>
    intro e K F s wh Q E he hK hp H hV hO k
    have gE' := fun n => gE_sound (dp := dp) (un := un) (gd := gd) (outer := outer) (m := m) (O := O) (σ := σ) ok hk X T hown n
    cases e
    case Compare l ops rs pos =>
      rcases ops with _ | ⟨op, _ | ⟨op2, ops⟩⟩
      · exfalso; exact hK
      · rcases rs with _ | ⟨r, _ | ⟨r2, rs⟩⟩
        · exfalso; exact hK
        · replace hK : (match plainCmp op with
            | true => gE P ow σ n l fun a => gE P ow σ n r fun b => cmpP P op a b K
            | false => False) := hK
          split at hK
          · rename_i hpc
            (with_reducible refine wpAny_isTrue_Compare1 ?_ (cmp_plain hpc r))
            refine gE' n l _ F s _ E hK hp H hV hO ?_
            intro v h' tk tl sv hp' H' ap hK' rv
            refine gE' n r _ _ _ _ E hK' hp' H' (hV.mono sub_app) (hO.mono sub_app) ?_
            intro v2 h2 tk2 tl2 sv2 hp2 H2 ap2 hK2 rv2
            refine cmpP_sound ok hK2 H2 (rv.mono sub_app) rv2 fun c hc => ?_
            (with_reducible refine wpAny_truthy_bool ?_)
            exact ((k.step ap).step ap2).now hp2 H2 hc
          · exfalso; exact hK
        · exfalso; exact hK
      · exfalso; exact hK
    case BoolOp op es pos =>
      cases op
      case Or => exact gOr_sound ih hK hp H hV hO k
      all_goals (exfalso; exact hK)
    case Call f as kws p =>
      (with_reducible refine isTrue_call ?_)
      rw [he]
      refine gE' n _ _ F s _ E hK hp H hV hO ?_
      intro v h' tk tl sv hp' H' ap hK' rv
      cases rv
      case bool b => (with_reducible refine wpAny_truthy_bool ?_); exact (k.step ap).now hp' H' hK'
      all_goals (exfalso; exact hK')
    all_goals (exfalso; exact hK)
end
end Mine
end
section
open PySem PySem.W PyProof.Rows PySem.Spec PySem.Calls
set_option Elab.async false
set_option maxRecDepth 100000
namespace Mine
theorem HS.dropW {h₀ h : Heap} {L : Addr} {W U F : Led} {O : Own} {m : PySem.Str → Option Value} (H : HS h₀ L (U ++ W) h m F O) : HS h₀ L W h m F O :=
  ⟨H.fr, fun p hp => H.nw p (by
    simp only [List.mem_append] at hp ⊢
    rcases hp with hp | hp | hp <;> simp [hp]), fun b hb p hp => H.ap b hb p (by
    simp only [List.mem_append] at hp ⊢
    rcases hp with hp | hp <;> simp [hp]), H.pw⟩
theorem rdv_store {P : Par} {m : PySem.Str → Option Value} {x y : PySem.Str} {v : Value} (h : y ≠ x) : rdv P (fun y => if y = x then some v else m y) y = rdv P m y := by
  unfold rdv
  split
  · rfl
  · exact if_neg h
theorem Vars.store {P : Par} {F : Led} {m : PySem.Str → Option Value} {σ : Vs} {x : PySem.Str} {v : Value} {sv : SV} (hV : Vars F (rdv P m) σ) (kx : P.kd x = some .local) (r : Rep F sv v) : Vars F (rdv P fun y => if y = x then some v else m y) ((x, sv) :: σ) := by
  intro y u e
  rw [List.lookup_cons] at e
  cases h : (y == x) with
  | true =>
    rw [h] at e; cases e
    have := eq_of_beq h
    subst this
    refine ⟨v, ?_, r⟩
    unfold rdv; rw [kx]; exact if_pos rfl
  | false =>
    rw [h] at e
    obtain ⟨z, h1, h2⟩ := hV y u e
    refine ⟨z, ?_, h2⟩
    rw [rdv_store]; exact h1
    intro q; subst q; rw [beq_self_eq_true] at h; cases h
theorem Vars.storeOwn {P : Par} {F : Led} {m : PySem.Str → Option Value} {σ : Vs} {x : PySem.Str} {v : Value} (hV : Vars F (rdv P m) σ) (hx : σ.lookup x = none) : Vars F (rdv P fun y => if y = x then some v else m y) σ := by
  intro y u e
  obtain ⟨z, h1, h2⟩ := hV y u e
  refine ⟨z, ?_, h2⟩
  rw [rdv_store]; exact h1
  intro q; subst q; rw [hx] at e; cases e
theorem OwnR.store {F : Led} {m : PySem.Str → Option Value} {ow : Ow} {O : Own} {x : PySem.Str} {v : Value} (hO : OwnR F m ow O) (hx : ow.lookup x = none) : OwnR F (fun y => if y = x then some v else m y) ow O :=
  hO.frame fun y l e => if_neg (not_own hx y l e)
section
variable {w : World} {mean : ExcName → Option Value} {mg mb : PySem.Str → Option Value} {dp un : Nat} {gd : Option (List Code)} {cn : PySem.Str} {cs : Scope} {a : Addr} {ccd : Value} {cl : List (PySem.Str × Addr)} {outer : List Env} {h₀ : Heap} {L : Addr} {W : Led} {m : PySem.Str → Option Value} {F : Led} {O : Own} {s : Shared} {ow : Ow} {σ : Vs} {P : Par} {E : Value → Shared → Prop}
/-- what is shown of statements of smaller fuel -/
noncomputable def StOK (w : World) (A : Around) (env : Env) (h₀ : Heap) (L : Addr) (W : Led) (P : Par) (E : Value → Shared → Prop) (bd : List Stmt → Ow → Vs → KT → Prop) : Prop :=
  ∀ W', (∀ p ∈ W, p ∈ W') → ∀ body K m F O ow σ (s : Shared) Q, bd body ow σ K → TP P s.toks → HS h₀ L W' s.heap m F O → Vars F (rdv P m) σ → OwnR F m ow O → (∀ x l, ow.lookup x = some l → P.kd x = some .local) → KS P h₀ L W' F s K Q → wpAny (model PySem.Challenge.rw_wf0099_01.prog w) A (execs body env) Q E s
theorem loopAt {bd : List Stmt → Ow → Vs → KT → Prop} (hfl : P.fl = false) (hbd : StOK w (ktrTop dp un gd cn cs L a ccd cl outer) (envX cn cs L a ccd cl) h₀ L W P E bd) {W' : Led} (hWW : ∀ p ∈ W, p ∈ W') {l : List SV} {x : PySem.Str} {body : List Stmt} {K : KT} {Q : Flow → Shared → Prop} {I : Addr} {fp : List Addr} {Pw : Nat → Value → Prop} {St : Nat → Heap → Prop}
    (Wk : Walks PySem.Challenge.rw_wf0099_01.prog w (ktrTop dp un gd cn cs L a ccd cl outer) I fp [I] l.length Pw St) (hL : L ∉ fp) (hI0 : h₀.get? I = none) (hIf : I ∈ fp) (hfp : ∀ b ∈ fp, b = I ∨ ∃ o, (b, o) ∈ F)
    (hP : ∀ i v, i < l.length → Pw i v → ∃ sv, l[i]? = some sv ∧ Rep F sv v) (hSt : ∀ i h, St i h → ∃ o, h.get? I = some o) (hfresh : ∀ p ∈ O.map oOwn ++ (F ++ W'), p.1 ≠ I)
    (kx : P.kd x = some .local) (st0 : St 0 s.heap) (H : HS h₀ L W' s.heap m F O) (hV : Vars F (rdv P m) σ) (hO : OwnR F m ow O) (hown : ∀ x l, ow.lookup x = some l → P.kd x = some .local) (hK : gFor bd x body l ow σ K) (k : KS P h₀ L W' F s K Q) :
    LoopAtV PySem.Challenge.rw_wf0099_01.prog w (ktrTop dp un gd cn cs L a ccd cl outer) h₀ (envX cn cs L a ccd cl) x body Q E (.ref I) s := by
  have tp : ∀ n, TP P n := fun n e => by rw [hfl] at e; cases e
  let J : Nat → (PySem.Str → Option Value) → Led → Prop := fun i m₁ news₁ => ∃ tl O ow σ, news₁ = O.map oOwn ++ ((tl ++ F) ++ W') ∧ Aprt W' tl ∧ (∀ b ∈ O.map (·.1), ∀ p ∈ (tl ++ F) ++ W', p.1 ≠ b) ∧ (O.map (·.1)).Pairwise (· ≠ ·) ∧ Vars (tl ++ F) (rdv P m₁) σ ∧ OwnR (tl ++ F) m₁ ow O ∧ (∀ x l, ow.lookup x = some l → P.kd x = some .local) ∧ gFor bd x body (l.drop i) ow σ K
  refine ⟨I, fp, [I], l.length, Pw, St, m, O.map oOwn ++ (F ++ W'), J, rfl, Wk, hL, fun b hb => by rw [List.mem_singleton.mp hb]; exact hI0, fun p hp hq => hfresh p hp (List.mem_singleton.mp hq), st0, H.fr, H.nw, ⟨[], O, ow, σ, rfl, aprt_nil, H.ap, H.pw, hV, hO, hown, hK⟩, ?_, ?_⟩
  · rintro i v m₁ news₁ s₁ own ⟨h, tk, rfl⟩ hin hPi ⟨tl, O₁, ow₁, σ₁, rfl, hap, ap, pw, hV₁, hO₁, hw₁, hK₁⟩ hoff hown' hget hall hst F₁ N₁
    obtain ⟨sv, hsv, rsv⟩ := hP i v hin hPi
    have hdrop : l.drop i = sv :: l.drop (i + 1) := by
      rw [List.drop_eq_getElem_cons hin]
      congr 1
      exact Option.some.inj ((List.getElem?_eq_getElem hin).symm.trans hsv)
    rw [hdrop] at hK₁
    replace hK₁ : (match ow₁.lookup x with
      | none => bd body ow₁ ((x, sv) :: σ₁) fun res ow' σ' => (match res with | none => gFor bd x body (l.drop (i + 1)) ow' σ' K | some u => K (some u) ow' σ')
      | some _ => False) := hK₁
    split at hK₁
    rename_i hx
    · have nI : ∀ b ∈ O₁.map (·.1), b ≠ I := fun b hb e => by
        obtain ⟨o, ho, rfl⟩ := List.mem_map.mp hb
        exact hoff (oOwn o) (List.mem_append.mpr (.inl (List.mem_map_of_mem ho))) (List.mem_singleton.mpr e)
      have H₁ : HS h₀ L (own ++ W') h (fun y => if y = x then some v else m₁ y) (tl ++ F) O₁ := by
        refine ⟨F₁, fun p hp => N₁ p ?_, fun b hb p hp => ?_, pw⟩
        · simp only [List.mem_append] at hp ⊢
          rcases hp with hp | (hp | hp) | hp | hp <;> simp [hp]
        · simp only [List.mem_append] at hp
          rcases hp with (hp | hp) | hp | hp
          · exact ap b hb p (by simp [hp])
          · exact ap b hb p (by simp [hp])
          · rcases hfp p.1 (hown' p hp) with e | ⟨o, ho⟩
            · rw [e]; exact (nI b hb).symm
            · exact ap b hb (p.1, o) (by simp [ho])
          · exact ap b hb p (by simp [hp])
      obtain ⟨oI, hoI⟩ := hSt _ _ hst
      have hIown : (I, oI) ∈ own := hall I hIf hI0 oI hoI
      refine hbd (own ++ W') (fun p hp => List.mem_append.mpr (.inr (hWW p hp))) body _ _ (tl ++ F) O₁ ow₁ _ _ _ hK₁ (tp _) H₁ (hV₁.store kx (rsv.mono sub_app)) (hO₁.store hx) hw₁ ?_
      intro h' tk' m2 tl2 O2 ow2 σ2 r fl _ H2 ap2 hV2 hO2 hw2 hK2 hr
      rw [← List.append_assoc] at H2 hV2 hO2 hr
      have apW : Aprt W' (tl2 ++ tl) := hap.app fun q hq p hp => ap2 q (List.mem_append.mpr (.inr hq)) p hp
      cases hr with
      | next =>
        refine .next (.intro (tk := tk') H2.fr (fun p hp => H2.nw p ?_) (fun p hp hq => ?_) ⟨tl2 ++ tl, O2, ow2, σ2, rfl, apW, H2.dropW.ap, H2.pw, hV2, hO2, hw2, hK2⟩)
        · simp only [List.mem_append] at hp ⊢
          rcases hp with hp | hp | ((hp | hp) | hp) | hp <;> simp [hp]
        · have hq := List.mem_singleton.mp hq
          simp only [List.mem_append] at hp
          rcases hp with hp | ((hp | hp) | hp) | hp
          · obtain ⟨o, ho, rfl⟩ := List.mem_map.mp hp
            exact H2.ap o.1 (List.mem_map_of_mem ho) (I, oI) (by simp [hIown]) hq.symm
          · exact ap2 (I, oI) (by simp [hIown]) p hp hq.symm
          · exact hoff p (by simp [hp]) (List.mem_singleton.mpr hq)
          · exact hoff p (by simp [hp]) (List.mem_singleton.mpr hq)
          · exact hoff p (by simp [hp]) (List.mem_singleton.mpr hq)
      | ret rv => exact .ret (k h' tk' m2 (tl2 ++ tl) O2 ow2 σ2 _ _ (tp _) H2.dropW apW hV2 hO2 hw2 hK2 (.ret rv))
    · exact hK₁.elim
  · rintro h' tk m' news' F' N' _ ⟨tl, O₁, ow₁, σ₁, rfl, hap, ap, pw, hV₁, hO₁, hw₁, hK₁⟩
    rw [List.drop_length] at hK₁
    exact k h' tk m' tl O₁ ow₁ σ₁ none .next (tp _) ⟨F', N', ap, pw⟩ hap hV₁ hO₁ hw₁ hK₁ .next
end
end Mine
end
section
open PySem PySem.W PyProof.Rows PySem.Spec PySem.Calls
set_option Elab.async false
set_option maxRecDepth 100000
namespace Mine
theorem Reps.get' {N : Led} : ∀ {l vs} (k : Nat) {v}, Reps N l vs → vs[k]? = some v → ∃ x, l[k]? = some x ∧ Rep N x v
  | _, _, 0, _, .cons h _, e => ⟨_, rfl, by cases e; exact h⟩
  | _, _, k + 1, _, .cons _ r, e => by
    obtain ⟨v, h1, h2⟩ := Reps.get' k r (by simpa using e)
    exact ⟨v, by simpa using h1, h2⟩
  | _, _, _, _, .nil, e => by cases e
theorem HS.push {h₀ h : Heap} {L : Addr} {W F : Led} {O : Own} {m : PySem.Str → Option Value} (H : HS h₀ L W h m F O) (ob : Obj) : HS h₀ L W (h.push ob) m F O :=
  H.same (H.fr.push _) fun p hp => ⟨Heap.get?_push_of_some _ (H.nw p hp).1, (H.nw p hp).2⟩
theorem rng_small : ∀ k : Fin 100, Builtin.Range.small 0 (k.val : Int) 1 = true := by decide +kernel
theorem rngL_get {k i : Nat} (h : i < k) : (rngL k)[i]? = some (.int (i : Nat)) := by
  unfold rngL
  rw [List.getElem?_map, List.getElem?_range h]; rfl
theorem rngL_len {k : Nat} : (rngL k).length = k := by unfold rngL; simp
section
variable {w : World} {mean : ExcName → Option Value} {mg mb : PySem.Str → Option Value} {dp un : Nat} {gd : Option (List Code)} {cn : PySem.Str} {cs : Scope} {a : Addr} {ccd : Value} {cl : List (PySem.Str × Addr)} {outer : List Env} {h₀ : Heap} {L : Addr} {W : Led} {m : PySem.Str → Option Value} {F : Led} {O : Own} {s : Shared} {ow : Ow} {σ : Vs} {P : Par} {E : Value → Shared → Prop}
theorem HS.iNe {h : Heap} (H : HS h₀ L W h m F O) : ∀ p ∈ O.map oOwn ++ (F ++ W), p.1 ≠ h.objs.size := fun p hp => Nat.ne_of_lt (Heap.lt_size (H.nw p hp).1)
theorem noCls (hk : cs.kind = .function) : (Env.scope (envX cn cs L a ccd cl) |>.kind) = .function := hk
theorem forCond (hk : cs.kind = .function) : ((Env.scope (envX cn cs L a ccd cl)).kind == .class || ((Env.scope (envX cn cs L a ccd cl)).kind == .module && (Env.locals (envX cn cs L a ccd cl)) != (Env.globals (envX cn cs L a ccd cl)))) = false := by
  show (cs.kind == .class || (cs.kind == .module && _)) = false
  rw [hk]; rfl
theorem gFor_sound (ok : ParOK P w (ktrTop dp un gd cn cs L a ccd cl outer) (envX cn cs L a ccd cl) h₀ L W) (hk : cs.kind = .function) (X : (KF w.params).In h₀) (T : Top QV LO mean mg mb h₀) {bd : List Stmt → Ow → Vs → KT → Prop} (hbd : StOK w (ktrTop dp un gd cn cs L a ccd cl outer) (envX cn cs L a ccd cl) h₀ L W P E bd) (hfl : P.fl = false) (hE : PassesOwn (model PySem.Challenge.rw_wf0099_01.prog w) (ktrTop dp un gd cn cs L a ccd cl outer) (envX cn cs L a ccd cl) E) {n : Nat} {x : PySem.Str} {px pos : Pos} {iter : PySem.Expr} {body : List Stmt} {K : KT} {Q : Flow → Shared → Prop}
    (kx : P.kd x = some .local) (hK : gIter P ow σ n iter fun l => gFor bd x body l ow σ K) (H : HS h₀ L W s.heap m F O) (hV : Vars F (rdv P m) σ) (hO : OwnR F m ow O) (hown : ∀ x l, ow.lookup x = some l → P.kd x = some .local) (k : KS P h₀ L W F s K Q) :
    wpAny (model PySem.Challenge.rw_wf0099_01.prog w) (ktrTop dp un gd cn cs L a ccd cl outer) (exec (.For (.Name x px) iter body [] pos) (envX cn cs L a ccd cl)) Q E s := by
  have hA : Around.handled (ktrTop dp un gd cn cs L a ccd cl outer) = none := rfl
  have tp : ∀ n, TP P n := fun n e => by rw [hfl] at e; cases e
  have gE' := fun n => gE_sound (dp := dp) (un := un) (gd := gd) (outer := outer) (m := m) (O := O) (σ := σ) ok hk X T hown n
  cases iter
  case Tuple elts kk tpos =>
    replace hK : (match elts.all unstar with | true => gA (gE P ow σ n) elts fun l => (match Nat.blt l.length 100 with | true => gFor bd x body l ow σ K | false => False) | false => False) := hK
    split at hK
    · rename_i hs
      (with_reducible refine For_invVF H.fr (ok.kd _ _ kx).1 (forCond hk) ?_ ?_ hE)
      · (with_reducible refine Tuple_ ?_)
        refine gA_sound (gE' n) hs hK (tp _) H hV hO ?_
        intro vs h' tk tl l _ H' ap hK' r
        split at hK'
        · rename_i hz
          have hz := Nat.blt_eq.mp hz
          (with_reducible refine kup_newTuple H'.fr H'.nw ?_ ?_)
          · intro D h2 F2 N2 hl
            have H2 := H'.alloc F2 N2 (fun p hp => Nat.ne_of_lt (hl p hp))
            have ap2 : Aprt W ((D, oTup vs) :: tl) := ap.app (u := [(D, oTup vs)]) fun q hq p hp => by
              cases hp with
              | head => exact Nat.ne_of_lt (hl q (by simp [hq]))
              | tail _ h => cases h
            have hD := H2.news _ (.head _)
            have ht : h2.IsTuple D vs.toArray := ⟨_, hD.1, rfl, _, rfl⟩
            (with_reducible refine wpAny_pyIter_tuple ht ?_)
            have hlt : D < h2.objs.size := Heap.lt_size hD.1
            have hne : D ≠ h2.objs.size := Nat.ne_of_lt hlt
            have Wk := Walks.tuple (prog := PySem.Challenge.rw_wf0099_01.prog) (w := w) hA h2.objs.size D hne vs.toArray
            have hlen : vs.toArray.size = l.length := by simp [r.length]
            rw [hlen] at Wk
            refine loopAt (F := (D, oTup vs) :: (tl ++ F)) (O := O) (m := m) (l := l) (K := K) hfl hbd (fun _ h => h) Wk ?_ (next_is_new F2) (by simp) ?_ ?_ (fun i h st => by obtain ⟨o, e, _⟩ := st.1; exact ⟨o, e⟩) H2.iNe kx ⟨⟨_, Heap.get?_push_size _ rfl, rfl, rfl⟩, ht.at fun o e => Heap.get?_push_of_some _ e⟩ (H2.push _) ?_ ?_ hown hK' ?_
            · intro hm
              rcases List.mem_cons.mp hm with e | hm
              · exact absurd F2.ns.lt (e ▸ Nat.lt_irrefl _)
              · exact hD.2.1 (List.mem_singleton.mp hm).symm
            · intro b hb
              have hb' : b = h2.objs.size ∨ b = D := by simpa using hb
              rcases hb' with e | e
              · exact .inl e
              · exact .inr ⟨_, by rw [e]; exact .head _⟩
            · intro i v hi hv
              have hv' : vs[i]? = some v := by simpa using hv
              obtain ⟨sv, h1, h2⟩ := r.get' i hv'
              exact ⟨sv, h1, h2.mono fun p hp => .tail _ hp⟩
            · exact hV.mono fun p hp => .tail _ (sub_app p hp)
            · exact hO.mono fun p hp => .tail _ (sub_app p hp)
            · exact k.step (t := (D, oTup vs) :: tl) ap2
          · rw [r.length]; exact Nat.le_trans (Nat.le_of_lt hz) (by decide)
        · exact hK'.elim
      · intro _; rfl
    · exact hK.elim
  case Call func args kws cp =>
    cases func
    case Name f fp =>
      rcases args with _ | ⟨e, _ | ⟨e2, es⟩⟩
      · exfalso; exact hK
      · cases e
        case Constant c ck ccp =>
          cases c
          case int z =>
            cases z with
            | ofNat N =>
              rcases kws with _ | ⟨kw, kws⟩
              · replace hK : cG P f fun v => (match v with | .type t => (match t == "range", Nat.blt N 100 with | true, true => gFor bd x body (rngL N) ow σ K | _, _ => False) | _ => False) := hK
                (with_reducible refine For_invVF H.fr (ok.kd _ _ kx).1 (forCond hk) ?_ ?_ hE)
                · (with_reducible refine Call_name ?_)
                  refine cG_sound ok hk X T hK H ?_
                  intro v hv _
                  split at hv
                  · split at hv
                    · rename_i t ht hN
                      have ht' := eq_of_beq ht
                      subst ht'
                      have hN := Nat.blt_eq.mp hN
                      (with_reducible refine PySem.Pv.callWith_type1 ?_ (star_cons rfl) rfl)
                      (with_reducible refine args_cons ?_ (star_cons rfl))
                      (with_reducible refine wpAny_Constant_int ?_)
                      (with_reducible refine args_nil ?_)
                      show wpAny (model PySem.Challenge.rw_wf0099_01.prog w) (ktrTop dp un gd cn cs L a ccd cl outer) (call (.type "range") [.int ((N : Nat) : Int) _]) _ E _
                      (with_reducible refine range1_rows (m := m) (news := O.map oOwn ++ (F ++ W)) H.fr H.nw ?_)
                      intro h' tk t₁ u₁ v₁ hr F' N' _
                      (with_reducible refine wpAny_pyIter_range hr (rng_small ⟨N, hN⟩) ?_)
                      have H' := H.same F' N'
                      have hsz : Builtin.Range.rangeSize 0 (N : Int) 1 = (N : Nat) := by rw [rangeSize_nat]; simp
                      have Wk : Walks PySem.Challenge.rw_wf0099_01.prog w (ktrTop dp un gd cn cs L a ccd cl outer) h'.objs.size [h'.objs.size] [h'.objs.size] (rngL N).length (fun i v => i < (rngL N).length ∧ ∃ t, v = .int (0 + i * 1) t) (fun i h => IsRangeIter h h'.objs.size (0 + (i : Nat) * 1) (((rngL N).length : Int) - (i : Nat)) 1) := (Walks.range hA _ 0 1 _).bound
                      refine loopAt (F := F) (O := O) (m := m) (l := rngL N) (K := K) hfl hbd (fun _ h => h) Wk ?_ (next_is_new F') (List.mem_singleton.mpr rfl) (fun b hb => .inl (List.mem_singleton.mp hb)) ?_ (fun i h st => ⟨_, st⟩) H'.iNe kx ?_ (H'.push _) hV hO hown hv (k.step (t := []) aprt_nil)
                      · intro hm
                        exact absurd F'.ns.lt ((List.mem_singleton.mp hm) ▸ Nat.lt_irrefl _)
                      · rintro i v hi ⟨_, t, rfl⟩
                        refine ⟨_, rngL_get (by rw [rngL_len] at hi; exact hi), ?_⟩
                        have : (0 : Int) + (i : Nat) * 1 = (i : Nat) := by omega
                        rw [this]; exact .int _ _
                      · show IsRangeIter _ _ _ _ _
                        rw [rngL_len, hsz]
                        simpa using Heap.get?_push_size _ rfl
                    · exact hv.elim
                  · exact hv.elim
                · intro _; rfl
              · exfalso; exact hK
            | negSucc N => exfalso; exact hK
          all_goals (exfalso; exact hK)
        all_goals (exfalso; exact hK)
      · exfalso
        cases e <;> first | exact hK | (rename_i c _ _; cases c <;> first | exact hK | (rename_i z; cases z <;> exact hK))
    all_goals (exfalso; exact hK)
  all_goals (exfalso; exact hK)
end
end Mine
end
section
open PySem PySem.W PyProof.Rows PySem.Spec PySem.Calls
set_option Elab.async false
set_option maxRecDepth 100000
namespace Mine
theorem Expr_plain {prog : Program} {w : World} {A : Around} {E : Value → Shared → Prop} {s : Shared} {env : Env} {e : PySem.Expr} {pos : Pos} {Q : Flow → Shared → Prop} (hk : env.scope.kind = .function) (hs : ∀ k, swapsWith e none k env = pure false)
    (h : wpAny (model prog w) A (eval e env) (fun _ => Q .next) E s) : wpAny (model prog w) A (exec (.Expr e pos) env) Q E s :=
  wpAny_Expr_any h (by unfold interactive; rw [hk]; rfl) (hs _)
theorem emptyL_is {e : PySem.Expr} (h : emptyL e = true) : ∃ p, e = .List [] p := by
  revert h
  cases e <;> intro h
  case List l p =>
    cases l <;> cases h
    exact ⟨_, rfl⟩
  all_goals cases h
theorem assignEach_cons {e : PySem.Expr} {es : List PySem.Expr} {env : Env} (h : unstar e = true) : assignEach (e :: es) env = (false, assign e env) :: assignEach es env := by
  cases e <;> first | rfl | cases h
section
variable {w : World} {mean : ExcName → Option Value} {mg mb : PySem.Str → Option Value} {dp un : Nat} {gd : Option (List Code)} {cn : PySem.Str} {cs : Scope} {a : Addr} {ccd : Value} {cl : List (PySem.Str × Addr)} {outer : List Env} {h₀ : Heap} {L : Addr} {W : Led} {m : PySem.Str → Option Value} {F : Led} {O : Own} {s : Shared} {ow : Ow} {σ : Vs} {P : Par} {E : Value → Shared → Prop}
theorem store_sound (ok : ParOK P w (ktrTop dp un gd cn cs L a ccd cl outer) (envX cn cs L a ccd cl) h₀ L W) (hk : cs.kind = .function) {x : PySem.Str} {v : Value} {sv : SV} {K : KT} {Q : Flow → Shared → Prop} (kx : P.kd x = some .local) (hx : ow.lookup x = none) (hp : TP P s.toks) (H : HS h₀ L W s.heap m F O) (hV : Vars F (rdv P m) σ) (hO : OwnR F m ow O) (hown : ∀ x l, ow.lookup x = some l → P.kd x = some .local)
    (r : Rep F sv v) (hK : K none ow ((x, sv) :: σ)) (k : KS P h₀ L W F s K Q) : wpAny (model PySem.Challenge.rw_wf0099_01.prog w) (ktrTop dp un gd cn cs L a ccd cl outer) (storeName (envX cn cs L a ccd cl) x v) (fun _ => Q .next) E s := by
  (with_reducible refine storeX_L H.fr H.nw ?_ hk (ok.kd _ _ kx).1)
  intro h' F' N'
  exact k h' _ _ [] O ow _ none .next tp_succ (H.same F' N') aprt_nil (hV.store kx r) (hO.store hx) hown hK .next
theorem unpk_len : ∀ {es : List PySem.Expr} {l : List SV} {σ : Vs} {K : Vs → Prop}, unpk P ow es l σ K → List.findIdx? (fun x => x.1) (assignEach es (envX cn cs L a ccd cl)) = none ∧ (assignEach es (envX cn cs L a ccd cl)).length = l.length := by
  intro es
  induction es with
  | nil =>
    intro l σ K h
    cases l with
    | nil => exact ⟨rfl, rfl⟩
    | cons v vs => exact h.elim
  | cons e es ih =>
    intro l σ K h
    cases l with
    | nil => exact h.elim
    | cons v vs =>
      obtain ⟨x, p, rfl, _, _, h⟩ := unpk_cons h
      obtain ⟨h2, h3⟩ := ih h
      refine ⟨?_, ?_⟩
      · rw [assignEach_cons rfl, List.findIdx?_cons]
        simp [h2]
      · rw [assignEach_cons rfl, List.length_cons, h3]; rfl
theorem unpk_sound (ok : ParOK P w (ktrTop dp un gd cn cs L a ccd cl outer) (envX cn cs L a ccd cl) h₀ L W) (hk : cs.kind = .function) (hown : ∀ x l, ow.lookup x = some l → P.kd x = some .local) {K : KT} {Q : Flow → Shared → Prop} : ∀ {es : List PySem.Expr} {l : List SV} {vs : List Value} {σ : Vs} {m : PySem.Str → Option Value} {s : Shared}, unpk P ow es l σ (fun σ' => K none ow σ') → TP P s.toks → HS h₀ L W s.heap m F O → Vars F (rdv P m) σ → OwnR F m ow O → Reps F l vs → KS P h₀ L W F s K Q →
    wpAny (model PySem.Challenge.rw_wf0099_01.prog w) (ktrTop dp un gd cn cs L a ccd cl outer) (assignInOrder ((assignEach es (envX cn cs L a ccd cl)).map fun x => x.2) vs) (fun _ => Q .next) E s := by
  intro es
  induction es with
  | nil =>
    intro l vs σ m s h hp H hV hO r k
    cases l with
    | nil =>
      cases r
      show wpAny (model PySem.Challenge.rw_wf0099_01.prog w) (ktrTop dp un gd cn cs L a ccd cl outer) (assignInOrder [] []) _ E s
      (with_reducible refine assignInOrder_nil ?_)
      exact k s.heap s.toks m [] O ow σ none .next hp H aprt_nil hV hO hown h .next
    | cons v vs => exact h.elim
  | cons e es ih =>
    intro l vs σ m s h hp H hV hO r k
    cases l with
    | nil => exact h.elim
    | cons sv l =>
      cases r with
      | cons rv r =>
        obtain ⟨x, p, rfl, kx, hx, h⟩ := unpk_cons h
        rw [assignEach_cons rfl, List.map_cons]
        (with_reducible refine assignInOrder_cons ?_)
        (with_reducible refine PyProof.Rows.assign_Name ?_)
        (with_reducible refine storeX_L H.fr H.nw ?_ hk (ok.kd _ _ kx).1)
        intro h' F' N'
        refine ih h tp_succ (H.same F' N') (hV.store kx rv) (hO.store hx) r ?_
        exact k.step (t := []) aprt_nil
end
end Mine
end
section
open PySem PySem.W PyProof.Rows PySem.Spec PySem.Calls
set_option Elab.async false
set_option maxRecDepth 100000
namespace Mine
theorem swaps_list (p : Pos) (t : Option PySem.Expr) (k : Nat) (env : Env) : swapsWith (.List [] p) t k env = pure false := rfl
theorem updOw_key {x y : PySem.Str} {v : SV} {l : List SV} : ∀ {ow : Ow}, (updOw x v ow).lookup y = some l → ∃ l', ow.lookup y = some l' := by
  intro ow
  induction ow with
  | nil => intro h; cases h
  | cons p r ih =>
    obtain ⟨z, k⟩ := p
    intro h
    unfold updOw at h
    rw [List.lookup_cons]
    cases hy : (y == z) with
    | true => exact ⟨_, rfl⟩
    | false =>
      dsimp only
      split at h
      · rw [List.lookup_cons, hy] at h; exact ⟨_, h⟩
      · rw [List.lookup_cons, hy] at h; exact ih h
section
variable {w : World} {mean : ExcName → Option Value} {mg mb : PySem.Str → Option Value} {dp un : Nat} {gd : Option (List Code)} {cn : PySem.Str} {cs : Scope} {a : Addr} {ccd : Value} {cl : List (PySem.Str × Addr)} {outer : List Env} {h₀ : Heap} {L : Addr} {W : Led} {m : PySem.Str → Option Value} {F : Led} {O : Own} {s : Shared} {ow : Ow} {σ : Vs} {P : Par} {E : Value → Shared → Prop}
theorem swaps_tuple {e : PySem.Expr} {elts : List PySem.Expr} {k : Nat} {p : Pos} {n : Nat} {K : SV → Prop} (h : gE P ow σ n e K) (hl : tupE e = false) (line : Nat) (env : Env) : swapsWithSole [.Tuple elts k p] e line env = pure false ∧ swappedStores [.Tuple elts k p] e env = pure none := by
  refine ⟨?_, ?_⟩
  · unfold swapsWithSole
    exact swaps_plain h _ _ _
  · cases e <;> first | rfl | cases hl
theorem call_attr {x : PySem.Str} {p1 p2 p3 : Pos} {e : PySem.Expr} {env : Env} (hs : unstar e = true) (hp : (p2.endLine == p3.line) = true) : eval (.Call (.Attribute (.Name x p1) "append" p2) [e] [] p3) env = (do
      let ov ← eval (.Name x p1) env
      standAt p2.atName
      let (f, first) ← holding [ov] (getMethod ov "append" (do return (← importBound (.Name x p1) env).getD true))
      callWith p3 f first (backTo p3 (starEach [e] env)) []) := by
  have hf : methodCallForm 1 (backTo p3 (starEach [e] env)) [] = true := by rw [star_cons hs]; rfl
  have hq : methodCallPos true (.Name x p1) env p2 p3 = pure p3 := by
    unfold methodCallPos
    rw [hp]; rfl
  have e1 : eval (.Call (.Attribute (.Name x p1) "append" p2) [e] [] p3) env = (do
      let ov ← eval (.Name x p1) env
      standAt p2.atName
      methodCall (.Name x p1) "append" p2 p3 env ov 1 (backTo p3 (starEach [e] env)) []) := by with_unfolding_all rfl
  rw [e1]
  unfold methodCall
  simp only [hf, hq]
  rfl
theorem append_sound (ok : ParOK P w (ktrTop dp un gd cn cs L a ccd cl outer) (envX cn cs L a ccd cl) h₀ L W) (hk : cs.kind = .function) (X : (KF w.params).In h₀) (T : Top QV LO mean mg mb h₀) {n : Nat} {x : PySem.Str} {p1 p2 p3 p4 : Pos} {e : PySem.Expr} {l : List SV} {K : KT} {Q : Flow → Shared → Prop} (hs : unstar e = true) (hpp : (p2.endLine == p3.line) = true) (hx : ow.lookup x = some l) (hz : l.length < 100)
    (hK : gA (gE P ow σ n) [e] fun l => (match l with | [v] => K none (updOw x v ow) σ | _ => False)) (hp : TP P s.toks) (H : HS h₀ L W s.heap m F O) (hV : Vars F (rdv P m) σ) (hO : OwnR F m ow O) (hown : ∀ x l, ow.lookup x = some l → P.kd x = some .local) (k : KS P h₀ L W F s K Q) :
    wpAny (model PySem.Challenge.rw_wf0099_01.prog w) (ktrTop dp un gd cn cs L a ccd cl outer) (exec (.Expr (.Call (.Attribute (.Name x p1) "append" p2) [e] [] p3) p4) (envX cn cs L a ccd cl)) Q E s := by
  have kx := hown _ _ hx
  (with_reducible refine Expr_plain hk (fun _ => rfl) ?_)
  (with_reducible refine MethodCall_ ?_ (call_attr hs hpp))
  obtain ⟨D, vs, c, h1, h2, h3⟩ := hO.get hx
  (with_reducible refine nameX_L H.fr h1 ?_ hk (ok.kd _ _ kx).1 (ok.kd _ _ kx).2)
  (with_reducible refine listMethod_K H.nw (its := vs.toArray) (n := c) ?_ PySem.F.slot_list_append PySem.F.type_list_append ?_)
  · exact List.mem_append.mpr (.inl (List.mem_map_of_mem (f := oOwn) h3))
  show wpAny (model PySem.Challenge.rw_wf0099_01.prog w) (ktrTop dp un gd cn cs L a ccd cl outer) (callWith p3 (.builtin "list.append") [.ref D] (backTo p3 (starEach [e] (envX cn cs L a ccd cl))) []) _ E s
  (with_reducible refine callWith_method1 ?_ (star_cons hs) rfl)
  have hs1 : [e].all unstar = true := by rw [List.all_cons, hs]; rfl
  refine gA_sound (gE_sound ok hk X T hown n) hs1 hK hp H hV hO ?_
  intro vs' h' tk tl l' hp' H' ap hK' r
  split at hK'
  case h_2 => exact hK'.elim
  rename_i l0 v
  have hK2 := hK'
  cases r with
  | cons rv r =>
    cases r
    obtain ⟨D', vs2, c2, O', g1, g2, g3, g4, g5, g6⟩ := OwnR.push (G := (tl ++ F) ++ W) rv (hO.mono sub_app) hx H'.pw H'.ap
    have hD : D' = D := by rw [h1] at g1; cases g1; rfl
    subst hD
    show wpAny (model PySem.Challenge.rw_wf0099_01.prog w) (ktrTop dp un gd cn cs L a ccd cl outer) (call (.builtin "list.append") [.ref D', _]) _ E _
    (with_reducible refine append_K H'.fr H'.nw g6 ?_ ?_)
    · intro h2' F2 N2
      have H2 : HS h₀ L W h2' m (tl ++ F) O' := ⟨F2, N2, by rw [g5]; exact H'.ap, by rw [g5]; exact H'.pw⟩
      exact k h2' tk m tl O' _ σ none .next hp' H2 ap (hV.mono sub_app) g4 (fun y l h => let ⟨l', h'⟩ := updOw_key h; hown y l' h') hK2 .next
    · rw [List.size_toArray, g3]; exact Nat.le_trans (Nat.le_of_lt hz) (by decide)
theorem g1_sound (ok : ParOK P w (ktrTop dp un gd cn cs L a ccd cl outer) (envX cn cs L a ccd cl) h₀ L W) (hk : cs.kind = .function) (X : (KF w.params).In h₀) (T : Top QV LO mean mg mb h₀) {bd : List Stmt → Ow → Vs → KT → Prop} (hbd : StOK w (ktrTop dp un gd cn cs L a ccd cl outer) (envX cn cs L a ccd cl) h₀ L W P E bd) (hE : PassesOwn (model PySem.Challenge.rw_wf0099_01.prog w) (ktrTop dp un gd cn cs L a ccd cl outer) (envX cn cs L a ccd cl) E) {n : Nat} {st : Stmt} {K : KT} {Q : Flow → Shared → Prop}
    (hK : g1 P n bd st ow σ K) (hp : TP P s.toks) (H : HS h₀ L W s.heap m F O) (hV : Vars F (rdv P m) σ) (hO : OwnR F m ow O) (hown : ∀ x l, ow.lookup x = some l → P.kd x = some .local) (k : KS P h₀ L W F s K Q) : wpAny (model PySem.Challenge.rw_wf0099_01.prog w) (ktrTop dp un gd cn cs L a ccd cl outer) (exec st (envX cn cs L a ccd cl)) Q E s := by
  have hA : Around.handled (ktrTop dp un gd cn cs L a ccd cl outer) = none := rfl
  have gE' := fun n => gE_sound (dp := dp) (un := un) (gd := gd) (outer := outer) (m := m) (O := O) (σ := σ) ok hk X T hown n
  cases st
  case Assign ts e pos =>
    rcases ts with _ | ⟨t, _ | ⟨t2, ts⟩⟩
    · exfalso; exact hK
    · cases t
      case Name x xp =>
        replace hK : (match locF P ow x with
          | true => (match emptyL e with
            | true => (match σ.lookup x with | none => K none ((x, []) :: ow) σ | some _ => False)
            | false => gE P ow σ n e fun v => K none ow ((x, v) :: σ))
          | false => False) := hK
        cases hlo : locF P ow x with
        | false => rw [hlo] at hK; exact hK.elim
        | true =>
          rw [hlo] at hK
          obtain ⟨kx, hx⟩ := locF_t hlo
          clear hlo
          cases he : emptyL e with
          | true =>
            rw [he] at hK
            cases hs : σ.lookup x with
            | some _ => rw [hs] at hK; exact hK.elim
            | none =>
            rw [hs] at hK
            obtain ⟨p, rfl⟩ := emptyL_is he
            (with_reducible refine wpAny_Assign_Name ?_ (swaps_list _ _ _ _))
            (with_reducible refine List_ ?_)
            (with_reducible refine args_nil ?_)
            (with_reducible refine newList_K H.fr H.nw ?_ ?_)
            · intro D h' F' N' hl
              (with_reducible refine storeX_L F' N' ?_ hk (ok.kd _ _ kx).1)
              intro h2 F2 N2
              refine k h2 _ _ [] ((D, [], 0) :: O) _ σ none .next tp_succ ⟨F2, N2, ?_, List.pairwise_cons.mpr ⟨?_, H.pw⟩⟩ aprt_nil (hV.storeOwn hs) (.cons (if_pos rfl) .nil rfl (hO.store hx)) ?_ hK .next
              · intro b hb p hp
                rcases List.mem_cons.mp hb with rfl | hb
                · exact Nat.ne_of_lt (hl p (List.mem_append.mpr (.inr hp)))
                · exact H.ap b hb p hp
              · intro b hb
                obtain ⟨o, ho, rfl⟩ := List.mem_map.mp hb
                exact (Nat.ne_of_lt (hl (oOwn o) (List.mem_append.mpr (.inl (List.mem_map_of_mem ho))))).symm
              intro y l e
              rw [List.lookup_cons] at e
              split at e
              · rename_i q; rw [eq_of_beq q]; exact kx
              · exact hown y l e
            · exact Nat.zero_le _
          | false =>
            rw [he] at hK
            replace hK : gE P ow σ n e fun v => K none ow ((x, v) :: σ) := hK
            clear he
            (with_reducible refine wpAny_Assign_Name ?_ (swaps_plain hK _ _ _))
            refine gE' n _ _ F s _ E hK hp H hV hO ?_
            intro v h' tk tl sv hp' H' ap hK' r
            exact store_sound ok hk kx hx hp' H' (hV.mono sub_app) (hO.mono sub_app) hown r hK' (k.step ap)
      case Tuple elts tk tpos =>
        replace hK : (match tupE e with | true => False | false => gE P ow σ n e fun v => (match v with | .lst l => unpk P ow elts l σ fun σ' => K none ow σ' | _ => False)) := hK
        split at hK
        · exact hK.elim
        · rename_i ht
          obtain ⟨h1, h2⟩ := swaps_tuple (elts := _) (k := _) (p := _) hK ht _ (envX cn cs L a ccd cl)
          (with_reducible refine Assign_Tuple ?_ h1 h2)
          refine gE' n _ _ F s _ E hK hp H hV hO ?_
          intro v h' tk tl sv hp' H' ap hK' r
          cases r
          case lst D vs l c hm hr =>
            obtain ⟨g1, g2⟩ := unpk_len (cn := cn) (cs := cs) (L := L) (a := a) (ccd := ccd) (cl := cl) hK'
            have hl : Heap.IsList h' D vs.toArray := ⟨_, (H'.news _ hm).1, rfl, _, rfl⟩
            (with_reducible refine kun_list H'.fr H'.nw hl hA ?_ g1 ?_)
            · rw [g2, List.size_toArray, hr.length]
            · intro h2' F2 N2
              show wpAny (model PySem.Challenge.rw_wf0099_01.prog w) (ktrTop dp un gd cn cs L a ccd cl outer) (assignInOrder _ vs) _ E _
              exact unpk_sound ok hk hown hK' hp' (H'.same F2 N2) (hV.mono sub_app) (hO.mono sub_app) hr ((k.step ap).step (t := []) aprt_nil)
          all_goals (exfalso; exact hK')
      all_goals (exfalso; exact hK)
    · exfalso; cases t <;> exact hK
  case AugAssign t op e pos =>
    cases t
    case Name x xp =>
      cases op
      case Add =>
        replace hK : (match locF P ow x with
          | true => (match σ.lookup x with
            | some (.int a) => gE P ow σ n e fun v => (match v with | .int b => K none ow ((x, .int (a + b)) :: σ) | _ => False)
            | _ => False)
          | false => False) := hK
        cases hlo : locF P ow x with
        | false => rw [hlo] at hK; exact hK.elim
        | true =>
          rw [hlo] at hK
          obtain ⟨kx, hx⟩ := locF_t hlo
          clear hlo
          cases hs : σ.lookup x with
          | none => rw [hs] at hK; exact hK.elim
          | some sx =>
            rw [hs] at hK
            cases sx
            case int a =>
              (with_reducible refine wpAny_AugAssign_Name ?_)
              obtain ⟨v, h1, h2⟩ := hV _ _ hs
              unfold rdv at h1; rw [kx] at h1
              (with_reducible refine wpAny_loadName_local hk (ok.kd _ _ kx).1 H.fr.ns h1 ?_)
              refine gE' n _ _ F s _ E hK hp H hV hO ?_
              intro v2 h' tk tl sv hp' H' ap hK' r
              cases h2
              cases r
              case int =>
                (with_reducible refine PyProof.Rows.iadd_int ?_)
                exact store_sound ok hk kx hx tp_succ H' (hV.mono sub_app) (hO.mono sub_app) hown (.int _ _) hK' (k.step ap)
              all_goals (exfalso; exact hK')
            all_goals (exfalso; exact hK)
      all_goals (exfalso; exact hK)
    all_goals (exfalso; exact hK)
  case If test body orelse pos =>
    replace hK : gT P ow σ n test fun b => (b = true → bd body ow σ K) ∧ (b = false → bd orelse ow σ K) := hK
    (with_reducible refine wpAny_If ?_)
    refine gT_sound ok hk X T hown n _ _ F s _ _ E rfl hK hp H hV hO ?_
    intro c h' tk tl hp' H' ap hc
    cases c with
    | true =>
      show (if true = true then _ else _)
      rw [if_pos rfl]
      exact hbd W (fun _ h => h) _ _ _ _ _ _ _ _ _ (hc.1 rfl) hp' H' (hV.mono sub_app) (hO.mono sub_app) hown (k.step ap)
    | false =>
      show (if false = true then _ else _)
      rw [if_neg Bool.false_ne_true]
      exact hbd W (fun _ h => h) _ _ _ _ _ _ _ _ _ (hc.2 rfl) hp' H' (hV.mono sub_app) (hO.mono sub_app) hown (k.step ap)
  case Return eo pos =>
    cases eo with
    | none => exfalso; exact hK
    | some e =>
      replace hK : gE P ow σ n e fun v => K (some v) ow σ := hK
      (with_reducible refine wpAny_Return_some ?_)
      refine gE' n _ _ F s _ E hK hp H hV hO ?_
      intro v h' tk tl sv hp' H' ap hK' r
      exact k h' tk m tl O ow σ (some sv) (.ret v) hp' H' ap (hV.mono sub_app) (hO.mono sub_app) hown hK' (.ret r)
  case Expr e0 pos =>
    cases e0
    case Call f as kws cpos =>
      cases f
      case Attribute o at_ p2 =>
        cases o
        case Name x xp =>
          rcases as with _ | ⟨e, _ | ⟨e2, es⟩⟩
          · exfalso; exact hK
          · rcases kws with _ | ⟨kw, kws⟩
            · replace hK : (match at_ == "append", unstar e, p2.endLine == cpos.line, ow.lookup x with
                | true, true, true, some l => (match Nat.blt l.length 100 with | true => gA (gE P ow σ n) [e] fun l => (match l with | [v] => K none (updOw x v ow) σ | _ => False) | false => False)
                | _, _, _, _ => False) := hK
              split at hK
              · rename_i e1 e2 e3 e4
                split at hK
                · rename_i hz
                  have := eq_of_beq e1
                  subst this
                  exact append_sound ok hk X T e2 e3 e4 (Nat.blt_eq.mp hz) hK hp H hV hO hown k
                · exact hK.elim
              · exact hK.elim
            · exfalso; exact hK
          · exfalso; exact hK
        all_goals (exfalso; exact hK)
      all_goals (exfalso; exact hK)
    all_goals (exfalso; exact hK)
  case For t iter body orelse pos =>
    cases t
    case Name x xp =>
      rcases orelse with _ | ⟨o1, os⟩
      · replace hK : (match P.kd x with
          | some .local => (match P.fl with
            | false => gIter P ow σ n iter fun l => gFor bd x body l ow σ K
            | true => False)
          | _ => False) := hK
        split at hK
        · rename_i kx
          split at hK
          · rename_i hfl
            exact gFor_sound ok hk X T hbd hfl hE kx hK H hV hO hown k
          · exact hK.elim
        · exact hK.elim
      · exfalso; exact hK
    all_goals (exfalso; exact hK)
  all_goals (exfalso; exact hK)
theorem gS_sound (ok : ParOK P w (ktrTop dp un gd cn cs L a ccd cl outer) (envX cn cs L a ccd cl) h₀ L W) (hk : cs.kind = .function) (X : (KF w.params).In h₀) (T : Top QV LO mean mg mb h₀) (hE : PassesOwn (model PySem.Challenge.rw_wf0099_01.prog w) (ktrTop dp un gd cn cs L a ccd cl outer) (envX cn cs L a ccd cl) E) : ∀ n, StOK w (ktrTop dp un gd cn cs L a ccd cl outer) (envX cn cs L a ccd cl) h₀ L W P E (gS P n) := by
  intro n
  induction n with
  | zero => intro W' _ body K m F O ow σ s Q h; exact h.elim
  | succ n ih =>
    intro W' hW body K m F O ow σ s Q hK hp H hV hO hown k
    cases body with
    | nil =>
      (with_reducible refine wpAny_execs_nil ?_)
      exact k s.heap s.toks m [] O ow σ none .next hp H aprt_nil hV hO hown hK .next
    | cons st rest =>
      (with_reducible refine wpAny_execs_cons ?_)
      replace hK : g1 P n (gS P n) st ow σ fun r ow' σ' => (match r with | some v => K (some v) ow' σ' | none => gS P n rest ow' σ' K) := hK
      refine g1_sound (ok.more hW) hk X T (fun W2 h2 => ih W2 fun p hp => h2 p (hW p hp)) hE hK hp H hV hO hown ?_
      intro h' tk m' tl O' ow' σ' r fl hp' H' ap hV' hO' hown' hK' hr
      cases hr with
      | next => exact ih W' hW _ _ _ _ _ _ _ _ _ hK' hp' H' hV' hO' hown' (k.step ap)
      | ret rv => exact k h' tk m' tl O' ow' σ' _ _ hp' H' ap hV' hO' hown' hK' (.ret rv)
end
end Mine
end
section
open PySem PySem.W PyProof.Rows PySem.Spec PySem.Calls
set_option Elab.async false
set_option maxRecDepth 100000
namespace Mine
noncomputable def chs (x : PySem.Str) : List SV := x.cps.toList.map fun c => .str ⟨#[c]⟩
section
variable {w : World} {mean : ExcName → Option Value} {mg mb : PySem.Str → Option Value} {dp un : Nat} {gd : Option (List Code)} {cn : PySem.Str} {cs : Scope} {a : Addr} {ccd : Value} {cl : List (PySem.Str × Addr)} {outer : List Env} {h₀ : Heap} {L : Addr} {W : Led} {m : PySem.Str → Option Value} {F : Led} {O : Own} {s : Shared} {ow : Ow} {σ : Vs} {P : Par} {E : Value → Shared → Prop}
/-- a loop over a text's signs, its body read by the machine -/
theorem strAt {bd : List Stmt → Ow → Vs → KT → Prop} (hfl : P.fl = false) (hbd : StOK w (ktrTop dp un gd cn cs L a ccd cl outer) (envX cn cs L a ccd cl) h₀ L W P E bd) {tx : PySem.Str} {t : Tok} {x : PySem.Str} {body : List Stmt} {K : KT} {Q : Flow → Shared → Prop}
    (kx : P.kd x = some .local) (H : HS h₀ L W s.heap m F O) (hV : Vars F (rdv P m) σ) (hO : OwnR F m ow O) (hown : ∀ x l, ow.lookup x = some l → P.kd x = some .local) (hK : gFor bd x body (chs tx) ow σ K) (k : KS P h₀ L W F s K Q) :
    wpAny (model PySem.Challenge.rw_wf0099_01.prog w) (ktrTop dp un gd cn cs L a ccd cl outer) (pyIter (.str tx t)) (fun it s₂ => LoopAtV PySem.Challenge.rw_wf0099_01.prog w (ktrTop dp un gd cn cs L a ccd cl outer) h₀ (envX cn cs L a ccd cl) x body Q E it s₂) E s := by
  have hA : Around.handled (ktrTop dp un gd cn cs L a ccd cl outer) = none := rfl
  have hlen : tx.cps.size = (chs tx).length := by unfold chs; simp
  have go : ∀ (T : String) (o : Obj), Walks PySem.Challenge.rw_wf0099_01.prog w (ktrTop dp un gd cn cs L a ccd cl outer) s.heap.objs.size [s.heap.objs.size] [s.heap.objs.size] tx.cps.size (SignAt tx) (fun i h => h.IsStrIter s.heap.objs.size T tx t i) →
      (s.heap.push o).IsStrIter s.heap.objs.size T tx t 0 → LoopAtV PySem.Challenge.rw_wf0099_01.prog w (ktrTop dp un gd cn cs L a ccd cl outer) h₀ (envX cn cs L a ccd cl) x body Q E (.ref s.heap.objs.size) { s with heap := s.heap.push o } := by
    intro T o Wk hst
    rw [hlen] at Wk
    refine loopAt (F := F) (O := O) (m := m) (l := chs tx) (K := K) hfl hbd (fun _ h => h) Wk ?_ (next_is_new H.fr) (List.mem_singleton.mpr rfl) (fun b hb => .inl (List.mem_singleton.mp hb)) ?_ (fun i h st => let ⟨o, h1, _⟩ := st; ⟨o, h1⟩) H.iNe kx hst (H.push _) hV hO hown hK (k.step (t := []) aprt_nil)
    · intro hm
      exact absurd H.fr.ns.lt ((List.mem_singleton.mp hm) ▸ Nat.lt_irrefl _)
    · rintro i v hi ⟨c, u, hc, rfl⟩
      refine ⟨.str ⟨#[c]⟩, ?_, .str _ _⟩
      unfold chs
      rw [List.getElem?_map, Array.getElem?_toList, hc]
      rfl
  cases ha : tx.cps.all (· < 128)
  · exact wpAny_pyIter_wide ha (go "str_iterator" _ (Walks.strWide hA _ tx t) ⟨_, Heap.get?_push_size _ rfl, rfl, rfl⟩)
  · exact wpAny_pyIter_ascii ha (go "str_ascii_iterator" _ (Walks.strAscii hA _ tx t) ⟨_, Heap.get?_push_size _ rfl, rfl, rfl⟩)
end
end Mine
end
section
open PySem PySem.W PyProof.Rows PySem.Spec PySem.Calls Lean Meta Elab Tactic
set_option Elab.async false
set_option maxRecDepth 100000
set_option maxHeartbeats 0
namespace Mine
noncomputable abbrev Cl (w : World) (mean : ExcName → Option Value) (mg mb : PySem.Str → Option Value) (f : Addr) (dd : Nat) (vs : List Value) (Pre : List (Addr × Obj) → Prop) (Out : List (Addr × Obj) → List (Addr × Obj) → Value → Prop) : Prop :=
  ∀ (dp un : Nat) (gd : Option (List Code)) (cn : PySem.Str) (cs : Scope) (a : Addr) (ccd : Value) (cl : List (PySem.Str × Addr)) (outer : List Env) (A₀ : Around) (base h₀ : Heap) (L : Addr) (m : PySem.Str → Option Value) (news : List (Addr × Obj)) (s : Shared)
    (Q E : Value → Shared → Prop),
    Below A₀ base outer h₀ → Fr h₀ L s.heap m → (KF w.params).In h₀ → News h₀ L s.heap news → Top QV LO mean mg mb h₀ → cs.kind = .function → dp + dd < recursionLimit → un + 8 * dd < cLine → Pre news →
    (∀ r tl h' tk', Fr h₀ L h' m → News h₀ L h' (tl ++ news) → (∀ q ∈ news, ∀ p ∈ tl, q.1 ≠ p.1) → Out news tl r → Q r { s with heap := h', toks := tk' }) →
    wpAny (model PySem.Challenge.rw_wf0099_01.prog w) (ktrTop dp un gd cn cs L a ccd cl outer) (call (.ref f) vs) Q E s
noncomputable abbrev tupO (vs : Array Value) : Obj := { cls := .type "tuple", data := .seq vs }
noncomputable abbrev oneF : UInt64 := 4607182418800017408
noncomputable def feq (x y : UInt64) : Bool := Float64.cmp x y == some .eq
noncomputable def hueF (r g b : UInt64) : UInt64 :=
  (Float64.divmod (Float64.div (if feq r oneF = true then Float64.sub (Float64.div (Float64.sub oneF b) (Float64.sub oneF 0)) (Float64.div (Float64.sub oneF g) (Float64.sub oneF 0))
    else if feq g oneF = true then Float64.sub (Float64.add 4611686018427387904 (Float64.div (Float64.sub oneF r) (Float64.sub oneF 0))) (Float64.div (Float64.sub oneF b) (Float64.sub oneF 0))
    else Float64.sub (Float64.add 4616189618054758400 (Float64.div (Float64.sub oneF g) (Float64.sub oneF 0))) (Float64.div (Float64.sub oneF r) (Float64.sub oneF 0))) 4618441417868443648) 4607182418800017408).snd
noncomputable abbrev HueOut (r g b : UInt64) (_ tl : List (Addr × Obj)) (v : Value) : Prop := ∃ D t o1 o2, v = .ref D ∧ tl = [(D, tupO #[.float (hueF r g b) t, o1, o2])]
end Mine
end
section
open PySem PySem.W PyProof.Rows PySem.Spec PySem.Calls
set_option Elab.async false
set_option maxRecDepth 100000
namespace Mine
noncomputable abbrev Spc := List SV → (SV → Prop) → Prop
noncomputable def kdOf (env : Env) (x : PySem.Str) : Option NameKind := match x == "__debug__" with
  | true => none
  | false => env.kindOf x
theorem kdOf_ok {env : Env} : ∀ x k, kdOf env x = some k → env.kindOf x = some k ∧ (x == ("__debug__" : PySem.Str)) = false := by
  intro x k h
  unfold kdOf at h
  split at h
  · cases h
  · rename_i e; exact ⟨h, e⟩
noncomputable def usB (b : String) (l : List SV) (K : SV → Prop) : Prop := match l with
  | [.flt x, .flt y, .flt z] => (match b == "max", b == "min" with
    | true, _ => ∀ c, fmax3 x y z = c → K (.flt c)
    | _, true => ∀ c, fmin3 x y z = c → K (.flt c)
    | _, _ => False)
  | [.int x, .int y] => (match b == "max", b == "min" with
    | true, _ => K (.int (if y > x then y else x))
    | _, true => K (.int (if y < x then y else x))
    | _, _ => False)
  | _ => False
noncomputable def usT (b : String) (l : List SV) (K : SV → Prop) : Prop := match l with
  | [.flt x] => (match b == "int" with
    | true => (Float64.isNaN x = false ∧ Float64.isInf x = false) ∧ K (.int (Flt.toInt Float64.truncOf x))
    | false => False)
  | _ => False
noncomputable def usM (tb : List (Nat × Spc)) (f : Value) (l : List SV) (K : SV → Prop) : Prop := match f with
  | .builtin b => usB b l K
  | .type t => usT t l K
  | .ref n => (match tb.lookup n with | some sp => sp l K | none => False)
  | _ => False
noncomputable def CallS (w : World) (mean : ExcName → Option Value) (mg mb : PySem.Str → Option Value) (f : Addr) (dd : Nat) (sp : Spc) : Prop :=
  ∀ l K, sp l K → ∀ vs N, Reps N l vs → Cl w mean mg mb f dd vs (fun news => ∀ p ∈ N, p ∈ news) (fun _ tl r => ∃ sv, K sv ∧ Rep (tl ++ N) sv r)
section
variable {P : Par} {w : World} {mean : ExcName → Option Value} {mg mb : PySem.Str → Option Value} {dp un : Nat} {gd : Option (List Code)} {cn : PySem.Str} {cs : Scope} {a : Addr} {ccd : Value} {cl : List (PySem.Str × Addr)} {outer : List Env} {A₀ : Around} {base h₀ : Heap} {L : Addr} {W : Led} {m : PySem.Str → Option Value} {F : Led} {O : Own} {s : Shared} {E : Value → Shared → Prop}
theorem usB_sound {A : Around} (hA : A.handled = none) {b : String} {l : List SV} {vs : List Value} {K : SV → Prop} {Q : Value → Shared → Prop} (hK : usB b l K) (hp : TP P s.toks) (H : HS h₀ L W s.heap m F O) (r : Reps F l vs) (k : KE P h₀ L W m F O s K Q) : wpAny (model PySem.Challenge.rw_wf0099_01.prog w) A (call (.builtin b) vs) Q E s := by
  unfold usB at hK
  split at hK
  · rcases r with _ | ⟨r1, _ | ⟨r2, _ | ⟨r3, r4⟩⟩⟩
    cases r1; rename_i p1
    cases r2; rename_i p2
    cases r3; rename_i p3
    cases r4
    split at hK
    · rename_i e
      have := eq_of_beq e; subst this
      refine wpAny_up ?_
      (with_reducible refine max_three_at rfl hA H.fr H.nw ?_)
      intro h' tk v hv F' N' hl
      refine k.now (tp_le hp hl) (H.same F' N') (hK _ rfl) (.flt _ _ ?_)
      rcases hv with rfl | rfl | rfl <;> assumption
    · rename_i e e2
      have := eq_of_beq e; subst this
      refine wpAny_up ?_
      (with_reducible refine min_three_at rfl hA H.fr H.nw ?_)
      intro h' tk v hv F' N' hl
      refine k.now (tp_le hp hl) (H.same F' N') (hK _ rfl) (.flt _ _ ?_)
      rcases hv with rfl | rfl | rfl <;> assumption
    · exact hK.elim
  · rcases r with _ | ⟨r1, _ | ⟨r2, r3⟩⟩
    cases r1; cases r2; cases r3
    split at hK
    · rename_i e
      have := eq_of_beq e; subst this
      refine wpAny_up ?_
      (with_reducible refine max_two_N hA H.fr H.nw ?_)
      intro h' tk F' N' hl
      exact k.now (tp_le hp hl) (H.same F' N') hK (.int _ _)
    · rename_i e e2
      have := eq_of_beq e; subst this
      refine wpAny_up ?_
      (with_reducible refine min_two_N hA H.fr H.nw ?_)
      intro h' tk F' N' hl
      exact k.now (tp_le hp hl) (H.same F' N') hK (.int _ _)
    · exact hK.elim
  · exact hK.elim
theorem usT_sound {A : Around} (hA : A.handled = none) {b : String} {l : List SV} {vs : List Value} {K : SV → Prop} {Q : Value → Shared → Prop} (hK : usT b l K) (hp : TP P s.toks) (H : HS h₀ L W s.heap m F O) (r : Reps F l vs) (k : KE P h₀ L W m F O s K Q) : wpAny (model PySem.Challenge.rw_wf0099_01.prog w) A (call (.type b) vs) Q E s := by
  unfold usT at hK
  split at hK
  · rcases r with _ | ⟨r1, r2⟩
    cases r1; cases r2
    split at hK
    · rename_i e
      have := eq_of_beq e; subst this
      (with_reducible refine PySem.Flt.call_int_float3 hA ?_ ?_ ?_)
      · intro h; rw [hK.1.1] at h; cases h
      · intro h; rw [hK.1.2] at h; cases h
      · intro _; exact k.now tp_succ H hK.2 (.int _ _)
    · exact hK.elim
  · exact hK.elim
theorem usM_sound {tb : List (Nat × Spc)} {dd : Nat} (htb : ∀ n sp, tb.lookup n = some sp → CallS w mean mg mb n dd sp) (B : Below A₀ base outer h₀) (X : (KF w.params).In h₀) (T : Top QV LO mean mg mb h₀) (hk : cs.kind = .function) (hd : dp + dd < recursionLimit) (hu : un + 8 * dd < cLine)
    {f : Value} {l : List SV} {vs : List Value} {K : SV → Prop} {Q : Value → Shared → Prop} (hK : usM tb f l K) (hp : TP P s.toks) (H : HS h₀ L W s.heap m F O) (r : Reps F l vs) (k : KE P h₀ L W m F O s K Q) : wpAny (model PySem.Challenge.rw_wf0099_01.prog w) (ktrTop dp un gd cn cs L a ccd cl outer) (call f vs) Q E s := by
  unfold usM at hK
  split at hK
  · exact usB_sound rfl hK hp H r k
  · exact usT_sound rfl hK hp H r k
  · split at hK
    · rename_i sp hsp
      refine wpAny_up ?_
      refine htb _ _ hsp l K hK vs F r dp un gd cn cs a ccd cl outer A₀ base h₀ L m (O.map oOwn ++ (F ++ W)) s _ E B H.fr X H.nw T hk hd hu (fun p hp => by simp [hp]) ?_
      rintro rv tl h' tk' F' N' ord ⟨sv, hk, rep⟩ hl
      exact k rv h' tk' tl sv (tp_le hp hl) (H.grow F' N' ord) (fun q hq p hp => ord q (by simp [hq]) p hp) hk rep
    · exact hK.elim
  · exact hK.elim
end
end Mine
end
section
open PySem PySem.W PyProof.Rows PySem.Spec PySem.Calls Lean Meta Elab Tactic
set_option Elab.async false
set_option maxRecDepth 100000
set_option maxHeartbeats 0
namespace Mine
noncomputable def glL : List (PySem.Str × Value) := [("max", .builtin "max"), ("min", .builtin "min"), ("int", .type "int"), ("range", .type "range"), ("chr", .builtin "chr"), ("sum", .builtin "sum"), ("rgb_to_hls", .ref 21), ("rgb_to_hsv", .ref 28), ("hsv_to_rgb", .ref 35), ("_law_symbols", .ref 149), ("_law_paint", .ref 156), ("_law_mirror", .ref 163), ("_law_turned", .ref 170), ("_law_done", .ref 175), ("_law_shine", .ref 182)]
noncomputable def glF (x : PySem.Str) : Option Value := glL.lookup x
theorem lookup_mem {α β : Type} [BEq α] [LawfulBEq α] {x : α} {v : β} : ∀ {l : List (α × β)}, l.lookup x = some v → (x, v) ∈ l := by
  intro l
  induction l with
  | nil => intro h; cases h
  | cons p r ih =>
    obtain ⟨y, u⟩ := p
    intro h
    rw [List.lookup_cons] at h
    split at h
    · rename_i e; cases h; rw [eq_of_beq e]; exact .head _
    · exact .tail _ (ih h)
theorem bt_max : bootBuiltins (PySem.Str.ofString "max") = some (.builtin "max") := by boot_fast
theorem bt_min : bootBuiltins (PySem.Str.ofString "min") = some (.builtin "min") := by boot_fast
theorem bt_int : bootBuiltins (PySem.Str.ofString "int") = some (.type "int") := by boot_fast
theorem bt_range : bootBuiltins (PySem.Str.ofString "range") = some (.type "range") := by boot_fast
theorem bt_chr : bootBuiltins (PySem.Str.ofString "chr") = some (.builtin "chr") := by boot_fast
theorem bt_sum : bootBuiltins (PySem.Str.ofString "sum") = some (.builtin "sum") := by boot_fast
theorem notref_b {b : String} : ∀ a, Value.builtin b ≠ .ref a := fun _ h => nomatch h
theorem notref_t {b : String} : ∀ a, Value.type b ≠ .ref a := fun _ h => nomatch h
theorem glF_ok (w : World) : GlOK w glF := by
  intro x v h
  have hm := lookup_mem h
  have all : ∀ p ∈ glL, (nsIn (KF w.params) mainGlobals p.1 = some (some p.2) ∧ keepIn (KF w.params) p.2 = true) ∨ (nsIn (KF w.params) mainGlobals p.1 = some none ∧ bootBuiltins p.1 = some p.2 ∧ p.1 ≠ "__name__" ∧ ∀ b, p.2 ≠ .ref b) := by
    refine List.forall_mem_cons.mpr ⟨.inr ⟨by kernel_rfl, bt_max, by decide, notref_b⟩, ?_⟩
    refine List.forall_mem_cons.mpr ⟨.inr ⟨by kernel_rfl, bt_min, by decide, notref_b⟩, ?_⟩
    refine List.forall_mem_cons.mpr ⟨.inr ⟨by kernel_rfl, bt_int, by decide, notref_t⟩, ?_⟩
    refine List.forall_mem_cons.mpr ⟨.inr ⟨by kernel_rfl, bt_range, by decide, notref_t⟩, ?_⟩
    refine List.forall_mem_cons.mpr ⟨.inr ⟨by kernel_rfl, bt_chr, by decide, notref_b⟩, ?_⟩
    refine List.forall_mem_cons.mpr ⟨.inr ⟨by kernel_rfl, bt_sum, by decide, notref_b⟩, ?_⟩
    refine List.forall_mem_cons.mpr ⟨.inl ⟨by kernel_rfl, by kernel_rfl⟩, ?_⟩
    refine List.forall_mem_cons.mpr ⟨.inl ⟨by kernel_rfl, by kernel_rfl⟩, ?_⟩
    refine List.forall_mem_cons.mpr ⟨.inl ⟨by kernel_rfl, by kernel_rfl⟩, ?_⟩
    refine List.forall_mem_cons.mpr ⟨.inl ⟨by kernel_rfl, by kernel_rfl⟩, ?_⟩
    refine List.forall_mem_cons.mpr ⟨.inl ⟨by kernel_rfl, by kernel_rfl⟩, ?_⟩
    refine List.forall_mem_cons.mpr ⟨.inl ⟨by kernel_rfl, by kernel_rfl⟩, ?_⟩
    refine List.forall_mem_cons.mpr ⟨.inl ⟨by kernel_rfl, by kernel_rfl⟩, ?_⟩
    refine List.forall_mem_cons.mpr ⟨.inl ⟨by kernel_rfl, by kernel_rfl⟩, ?_⟩
    refine List.forall_mem_cons.mpr ⟨.inl ⟨by kernel_rfl, by kernel_rfl⟩, ?_⟩
    exact fun _ h => nomatch h
  exact all _ hm
noncomputable def noXo : PySem.Expr → Bool := fun _ => false
noncomputable def noXe : (PySem.Expr → (SV → Prop) → Prop) → PySem.Expr → (SV → Prop) → Prop := fun _ _ _ => False
theorem noXs : ∀ ev e K, noXo e = true → noXe ev e K → (∀ a b c p, e ≠ .Slice a b c p) ∧ ∀ t k env, swapsWith e t k env = pure false := fun _ _ _ h => Bool.noConfusion h
/-- the reading of a frame -/
noncomputable def parM (env : Env) (tb : List (Nat × Spc)) (cv : PySem.Str → Option Value) (cm : CmpOp → SV → SV → (Bool → Prop) → Prop) (fl : Bool) : Par := ⟨kdOf env, glF, usM tb, cv, cm, fl, noXo, noXe, noXs⟩
noncomputable def noCv : PySem.Str → Option Value := fun _ => none
noncomputable def noCm : CmpOp → SV → SV → (Bool → Prop) → Prop := fun _ _ _ _ => False
section
variable {w : World} {mean : ExcName → Option Value} {mg mb : PySem.Str → Option Value} {dp un : Nat} {gd : Option (List Code)} {cn : PySem.Str} {cs : Scope} {a : Addr} {ccd : Value} {cl : List (PySem.Str × Addr)} {outer : List Env} {A₀ : Around} {base h₀ : Heap} {L : Addr} {W : Led} {m : PySem.Str → Option Value} {F : Led} {O : Own} {s : Shared} {E : Value → Shared → Prop}
theorem parM_ok {fl : Bool} {tb : List (Nat × Spc)} {dd : Nat} (htb : ∀ n sp, tb.lookup n = some sp → CallS w mean mg mb n dd sp) (B : Below A₀ base outer h₀) (X : (KF w.params).In h₀) (T : Top QV LO mean mg mb h₀) (hk : cs.kind = .function) (hd : dp + dd < recursionLimit) (hu : un + 8 * dd < cLine) : ParOK (parM (envX cn cs L a ccd cl) tb noCv noCm fl) w (ktrTop dp un gd cn cs L a ccd cl outer) (envX cn cs L a ccd cl) h₀ L W :=
  ⟨kdOf_ok, glF_ok w, fun _ _ h => (nomatch h), fun _ _ _ _ _ _ _ _ _ _ _ _ _ h => (False.elim h), fun W f l K vs m F O s Q E hK hp H r k => usM_sound htb B X T hk hd hu hK hp H r k, fun _ _ _ _ _ _ _ _ _ _ _ _ h => Bool.noConfusion h⟩
theorem vars_nil {F : Led} {m : PySem.Str → Option Value} : Vars F m [] := fun _ _ h => nomatch h
theorem vars_cons {P : Par} {F : Led} {m : PySem.Str → Option Value} {σ : Vs} {x : PySem.Str} {sv : SV} {v : Value} (kx : P.kd x = some .local) (hm : m x = some v) (r : Rep F sv v) (h : Vars F (rdv P m) σ) : Vars F (rdv P m) ((x, sv) :: σ) := by
  intro y u e
  rw [List.lookup_cons] at e
  cases hb : (y == x) with
  | true =>
    rw [hb] at e; cases e
    rw [eq_of_beq hb]
    refine ⟨v, ?_, r⟩
    unfold rdv; rw [kx]; exact hm
  | false => rw [hb] at e; exact h y u e
/-- a function's body, read by the machine: the way back to the caller -/
theorem body_sound {P : Par} (ok : ParOK P w (ktrTop dp un gd cn cs L a ccd cl outer) (envX cn cs L a ccd cl) h₀ L W) (hk : cs.kind = .function) (X : (KF w.params).In h₀) (T : Top QV LO mean mg mb h₀) (hE : PassesOwn (model PySem.Challenge.rw_wf0099_01.prog w) (ktrTop dp un gd cn cs L a ccd cl outer) (envX cn cs L a ccd cl) E) {n : Nat} {body : List Stmt} {σ : Vs} {K : SV → Prop} {Q : Flow → Shared → Prop}
    (hK : gS P n body [] σ fun r _ _ => (match r with | some v => K v | none => False)) (hp : TP P s.toks) (Fr0 : Fr h₀ L s.heap m) (NF : News h₀ L s.heap F) (NW : News h₀ L s.heap W) (hV : Vars F (rdv P m) σ)
    (k : ∀ v sv h' tk m' tl l2, Fr h₀ L h' m' → News h₀ L h' l2 → (∀ p ∈ tl ++ W, p ∈ l2) → Aprt W tl → K sv → Rep (tl ++ F) sv v → Q (.ret v) { s with heap := h', toks := tk }) : wpAny (model PySem.Challenge.rw_wf0099_01.prog w) (ktrTop dp un gd cn cs L a ccd cl outer) (execs body (envX cn cs L a ccd cl)) Q E s := by
  have H : HS h₀ L W s.heap m F [] := ⟨Fr0, fun p hp => (List.mem_append.mp (show p ∈ F ++ W from hp)).elim (NF p) (NW p), fun _ h => (nomatch h), .nil⟩
  refine gS_sound ok hk X T hE n W (fun _ h => h) body _ m F [] [] σ s Q hK hp H hV .nil (fun _ _ h => nomatch h) ?_
  intro h' tk m' tl O' ow' σ' r fl _ H' ap hV' hO' hown' hK' hr
  cases hr with
  | next => exact hK'.elim
  | ret rv => exact k _ _ h' tk m' tl _ H'.fr H'.nw (fun p hp => by
      simp only [List.mem_append] at hp ⊢
      rcases hp with hp | hp <;> simp [hp]) ap hK' rv
end
end Mine
end
section
open PySem PySem.W PyProof.Rows PySem.Spec PySem.Calls Lean Meta Elab Tactic
set_option Elab.async false
set_option maxRecDepth 100000
set_option maxHeartbeats 400000
namespace Mine
theorem three_flt {N : Led} {r g b : UInt64} {vs : List Value} (h : Reps N [.flt r, .flt g, .flt b] vs) : ∃ t1 t2 t3, vs = [.float r t1, .float g t2, .float b t3] ∧ 0 < t1 ∧ 0 < t2 ∧ 0 < t3 := by
  rcases h with _ | ⟨r1, _ | ⟨r2, _ | ⟨r3, r4⟩⟩⟩
  cases r1; cases r2; cases r3; cases r4
  exact ⟨_, _, _, rfl, by assumption, by assumption, by assumption⟩
noncomputable def spHue (l : List SV) (K : SV → Prop) : Prop := ∃ r g b, l = [.flt r, .flt g, .flt b] ∧ (fmax3 r g b = oneF ∧ fmin3 r g b = 0) ∧ ∀ o1 o2, K (.tup [.flt (hueF r g b), o1, o2])
noncomputable abbrev kHue (r g b : UInt64) (sv : SV) : Prop := ∃ o1 o2, sv = .tup [.flt (hueF r g b), o1, o2]
theorem kHue_of {r g b X : UInt64} {o1 o2 : SV} (e : X = hueF r g b) : kHue r g b (.tup [.flt X, o1, o2]) := ⟨o1, o2, by rw [e]⟩
theorem hue1 {r g b : UInt64} (h : (Float64.cmp r oneF == some .eq) = true) : (Float64.divmod (Float64.div (Float64.sub (Float64.div (Float64.sub oneF b) (Float64.sub oneF 0)) (Float64.div (Float64.sub oneF g) (Float64.sub oneF 0))) 4618441417868443648) 4607182418800017408).snd = hueF r g b := by
  unfold hueF feq; rw [if_pos h]
theorem hue2 {r g b : UInt64} (h1 : (Float64.cmp r oneF == some .eq) = false) (h : (Float64.cmp g oneF == some .eq) = true) : (Float64.divmod (Float64.div (Float64.sub (Float64.add 4611686018427387904 (Float64.div (Float64.sub oneF r) (Float64.sub oneF 0))) (Float64.div (Float64.sub oneF b) (Float64.sub oneF 0))) 4618441417868443648) 4607182418800017408).snd = hueF r g b := by
  unfold hueF feq; rw [h1, if_neg Bool.false_ne_true, if_pos h]
theorem hue3 {r g b : UInt64} (h1 : (Float64.cmp r oneF == some .eq) = false) (h2 : (Float64.cmp g oneF == some .eq) = false) : (Float64.divmod (Float64.div (Float64.sub (Float64.add 4616189618054758400 (Float64.div (Float64.sub oneF g) (Float64.sub oneF 0))) (Float64.div (Float64.sub oneF r) (Float64.sub oneF 0))) 4618441417868443648) 4607182418800017408).snd = hueF r g b := by
  unfold hueF feq; rw [h1, if_neg Bool.false_ne_true, h2, if_neg Bool.false_ne_true]
theorem nz2 : Float64.isZero 4611686018427387904 = false := by decide +kernel
theorem nz6 : Float64.isZero 4618441417868443648 = false := by decide +kernel
theorem nz1 : Float64.isZero 4607182418800017408 = false := by decide +kernel
theorem nzr : Float64.isZero (Float64.sub oneF 0) = false := by decide +kernel
theorem nza : Float64.isZero (Float64.add oneF 0) = false := by decide +kernel
theorem noEq01 : ¬ (Float64.cmp 0 oneF == some .eq) = true := by decide +kernel
theorem hlsS (w mean mg mb) : CallS w mean mg mb 21 1 spHue := by
  rintro _ K ⟨r, g, b, rfl, ⟨hmx, hmn⟩, hK⟩ vs N hr
  obtain ⟨t1, t2, t3, rfl, p1, p2, p3⟩ := three_flt hr
  clear hr
  unfold Cl; k_fill
  intro dp un gd cn cs a ccd cl outer A₀ base h₀ L m news s Q E B F X NN T hk hd hu hP hret
  refine wpAny_call ?_
  k_dflt ktr_enter
  rename Fr _ _ _ _ => F1
  rename News _ _ _ _ => N1
  rename Below _ _ _ _ => B1
  rename Frag.In _ _ => X1
  rename Top _ _ _ _ _ _ => T1
  refine body_sound (W := news) (F := []) (n := 60) (K := kHue r g b) (σ := [("r", .flt r), ("g", .flt g), ("b", .flt b)]) (parM_ok (tb := []) (dd := 0) (fl := true) (fun _ _ h => (nomatch h)) B1 X1 T1 (by rfl) (by ktr_room) (by ktr_units)) (by rfl) X1 T1 (by passes_own) ?_ (fun _ => Nat.succ_pos _) F1 (fun p hp => nomatch hp) N1 (vars_cons (v := .float r t1) (by rfl) (by rfl) (.flt _ _ p1) (vars_cons (v := .float g t2) (by rfl) (by rfl) (.flt _ _ p2) (vars_cons (v := .float b t3) (by rfl) (by rfl) (.flt _ _ p3) vars_nil))) ?_
  · intro c hc
    rw [hmx] at hc
    subst hc
    intro c hc
    rw [hmn] at hc
    subst hc
    refine And.intro nz2 ?_
    refine And.intro (fun h => absurd h noEq01) (fun _ => ?_)
    refine And.intro (fun _ => ?_) (fun h => absurd h (by decide +kernel))
    refine And.intro nza (And.intro nzr (And.intro nzr (And.intro nzr ?_)))
    refine And.intro (fun h1 => ?_) (fun h1 => ?_)
    · exact And.intro nz6 (And.intro nz1 (kHue_of (hue1 h1)))
    · refine And.intro (fun h2 => ?_) (fun h2 => ?_)
      · exact And.intro nz6 (And.intro nz1 (kHue_of (hue2 h1 h2)))
      · exact And.intro nz6 (And.intro nz1 (kHue_of (hue3 h1 h2)))
  · rintro v sv h' tk m' tl l2 F2 N2 hsub ap ⟨o1, o2, rfl⟩ rep
    exact leaveK_ F2 N2 fun F3 N3 => hret v tl h' tk F3 (fun p hp => N3 p (hsub p hp)) ap ⟨_, hK o1 o2, rep.mono fun p hp => List.mem_append.mpr (.inl (by simpa using hp))⟩
theorem hsvS (w mean mg mb) : CallS w mean mg mb 28 1 spHue := by
  rintro _ K ⟨r, g, b, rfl, ⟨hmx, hmn⟩, hK⟩ vs N hr
  obtain ⟨t1, t2, t3, rfl, p1, p2, p3⟩ := three_flt hr
  clear hr
  unfold Cl; k_fill
  intro dp un gd cn cs a ccd cl outer A₀ base h₀ L m news s Q E B F X NN T hk hd hu hP hret
  refine wpAny_call ?_
  k_dflt ktr_enter
  rename Fr _ _ _ _ => F1
  rename News _ _ _ _ => N1
  rename Below _ _ _ _ => B1
  rename Frag.In _ _ => X1
  rename Top _ _ _ _ _ _ => T1
  refine body_sound (W := news) (F := []) (n := 60) (K := kHue r g b) (σ := [("r", .flt r), ("g", .flt g), ("b", .flt b)]) (parM_ok (tb := []) (dd := 0) (fl := true) (fun _ _ h => (nomatch h)) B1 X1 T1 (by rfl) (by ktr_room) (by ktr_units)) (by rfl) X1 T1 (by passes_own) ?_ (fun _ => Nat.succ_pos _) F1 (fun p hp => nomatch hp) N1 (vars_cons (v := .float r t1) (by rfl) (by rfl) (.flt _ _ p1) (vars_cons (v := .float g t2) (by rfl) (by rfl) (.flt _ _ p2) (vars_cons (v := .float b t3) (by rfl) (by rfl) (.flt _ _ p3) vars_nil))) ?_
  · intro c hc
    rw [hmx] at hc
    subst hc
    intro c hc
    rw [hmn] at hc
    subst hc
    refine And.intro (fun h => absurd h noEq01) (fun _ => ?_)
    refine And.intro nz1 (And.intro nzr (And.intro nzr (And.intro nzr ?_)))
    refine And.intro (fun h1 => ?_) (fun h1 => ?_)
    · exact And.intro nz6 (And.intro nz1 (kHue_of (hue1 h1)))
    · refine And.intro (fun h2 => ?_) (fun h2 => ?_)
      · exact And.intro nz6 (And.intro nz1 (kHue_of (hue2 h1 h2)))
      · exact And.intro nz6 (And.intro nz1 (kHue_of (hue3 h1 h2)))
  · rintro v sv h' tk m' tl l2 F2 N2 hsub ap ⟨o1, o2, rfl⟩ rep
    exact leaveK_ F2 N2 fun F3 N3 => hret v tl h' tk F3 (fun p hp => N3 p (hsub p hp)) ap ⟨_, hK o1 o2, rep.mono fun p hp => List.mem_append.mpr (.inl (by simpa using hp))⟩
end Mine
end
section
open PySem PySem.W PyProof.Rows PySem.Spec PySem.Calls Lean Meta Elab Tactic
set_option Elab.async false
set_option maxRecDepth 100000
set_option maxHeartbeats 400000
namespace Mine
noncomputable abbrev h6 (h : UInt64) : UInt64 := Float64.mul h 4618441417868443648
noncomputable abbrev tr6 (h : UInt64) : Int := Flt.toInt Float64.truncOf (h6 h)
noncomputable abbrev fr6 (h : UInt64) : UInt64 := Float64.sub (h6 h) (Float64.ofInt (tr6 h))
noncomputable abbrev p6 : UInt64 := Float64.mul 4607182418800017408 (Float64.sub 4607182418800017408 4607182418800017408)
noncomputable abbrev q6 (h : UInt64) : UInt64 := Float64.mul 4607182418800017408 (Float64.sub 4607182418800017408 (Float64.mul 4607182418800017408 (fr6 h)))
noncomputable abbrev t6 (h : UInt64) : UInt64 := Float64.mul 4607182418800017408 (Float64.sub 4607182418800017408 (Float64.mul 4607182418800017408 (Float64.sub 4607182418800017408 (fr6 h))))
noncomputable def rgbF (h : UInt64) : UInt64 × UInt64 × UInt64 :=
  if (tr6 h).fmod 6 = 0 then (4607182418800017408, t6 h, p6)
  else if (tr6 h).fmod 6 = 1 then (q6 h, 4607182418800017408, p6)
  else if (tr6 h).fmod 6 = 2 then (p6, 4607182418800017408, t6 h)
  else if (tr6 h).fmod 6 = 3 then (p6, q6 h, 4607182418800017408)
  else if (tr6 h).fmod 6 = 4 then (t6 h, p6, 4607182418800017408)
  else (4607182418800017408, p6, q6 h)
noncomputable abbrev colO (c : UInt64 × UInt64 × UInt64) (t1 t2 t3 : Tok) : Obj := tupO #[.float c.1 (t1 + 1), .float c.2.1 (t2 + 1), .float c.2.2 (t3 + 1)]
noncomputable abbrev ColOut (c : UInt64 × UInt64 × UInt64) (_ tl : List (Addr × Obj)) (v : Value) : Prop := ∃ D t1 t2 t3, v = .ref D ∧ tl = [(D, colO c t1 t2 t3)]
structure GoodH (h : UInt64) : Prop where
  nan : Float64.isNaN (h6 h) = false
  inf : Float64.isInf (h6 h) = false
  sm : (tr6 h).natAbs < 2 ^ 60
theorem rgb_none {x : Int} (h1 : 0 ≤ x) (h2 : x < 6) (a0 : ¬ x = 0) (a1 : ¬ x = 1) (a2 : ¬ x = 2) (a3 : ¬ x = 3) (a4 : ¬ x = 4) (a5 : ¬ x = 5) : False := by omega
noncomputable abbrev C3 := UInt64 × UInt64 × UInt64
noncomputable abbrev svC (c : C3) : SV := .tup [.flt c.1, .flt c.2.1, .flt c.2.2]
theorem rep_col {N : Led} {c : C3} {v : Value} (h : Rep N (svC c) v) : ∃ D t1 t2 t3, v = .ref D ∧ (D, colO c t1 t2 t3) ∈ N := by
  rcases h with _ | _ | _ | _ | _ | ⟨D, vs, _, hm, hr⟩
  obtain ⟨t1, t2, t3, rfl, p1, p2, p3⟩ := three_flt hr
  obtain ⟨u1, rfl⟩ := Nat.exists_eq_succ_of_ne_zero (Nat.pos_iff_ne_zero.mp p1)
  obtain ⟨u2, rfl⟩ := Nat.exists_eq_succ_of_ne_zero (Nat.pos_iff_ne_zero.mp p2)
  obtain ⟨u3, rfl⟩ := Nat.exists_eq_succ_of_ne_zero (Nat.pos_iff_ne_zero.mp p3)
  exact ⟨D, u1, u2, u3, rfl, hm⟩
theorem col_rep {N : Led} {c : C3} {D : Addr} {t1 t2 t3 : Tok} (h : (D, colO c t1 t2 t3) ∈ N) : Rep N (svC c) (.ref D) :=
  .tup D [.float c.1 (t1 + 1), .float c.2.1 (t2 + 1), .float c.2.2 (t3 + 1)] _ h (.cons (.flt _ _ (Nat.succ_pos _)) (.cons (.flt _ _ (Nat.succ_pos _)) (.cons (.flt _ _ (Nat.succ_pos _)) .nil)))
inductive ColAt (N : Led) (c : C3) (news tl : List (Addr × Obj)) : Value → Prop
  | mk (D : Addr) (t1 t2 t3 : Tok) : (D, colO c t1 t2 t3) ∈ tl ∨ (D, colO c t1 t2 t3) ∈ N → ColAt N c news tl (.ref D)
/-- a call that gives a colour, as the walks want it -/
theorem cl_col {w : World} {mean : ExcName → Option Value} {mg mb : PySem.Str → Option Value} {f : Addr} {dd : Nat} {sp : Spc} (C : CallS w mean mg mb f dd sp) {l : List SV} {vs : List Value} {N : Led} {c : C3} (hs : sp l fun v => v = svC c) (r : Reps N l vs) : Cl w mean mg mb f dd vs (fun news => ∀ p ∈ N, p ∈ news) (ColAt N c) := by
  intro dp un gd cn cs a ccd cl outer A₀ base h₀ L m news s Q E B F X NN T hk hd hu hP hret
  refine C l _ hs vs N r dp un gd cn cs a ccd cl outer A₀ base h₀ L m news s Q E B F X NN T hk hd hu hP ?_
  rintro r tl h' tk' F' N' ord ⟨sv, rfl, rep⟩
  obtain ⟨D, t1, t2, t3, rfl, hm⟩ := rep_col rep
  exact hret _ tl h' tk' F' N' ord (.mk D t1 t2 t3 (List.mem_append.mp hm))
noncomputable def spRgb (l : List SV) (K : SV → Prop) : Prop := ∃ h, l = [.flt h, .flt oneF, .flt oneF] ∧ GoodH h ∧ K (svC (rgbF h))
theorem col_of {c : C3} {X Y Z : UInt64} (e : c = (X, Y, Z)) : (SV.tup [.flt X, .flt Y, .flt Z]) = svC c := by rw [e]
theorem rgb_0 {h : UInt64} (e : ((tr6 h).fmod 6 == 0) = true) : rgbF h = (4607182418800017408, t6 h, p6) := if_pos (eq_of_beq e)
theorem nb {x y : Int} (e : (x == y) = false) : ¬ x = y := fun q => by rw [q, beq_self_eq_true] at e; cases e
theorem rgb_1 {h : UInt64} (e0 : ((tr6 h).fmod 6 == 0) = false) (e : ((tr6 h).fmod 6 == 1) = true) : rgbF h = (q6 h, 4607182418800017408, p6) := (if_neg (nb e0)).trans (if_pos (eq_of_beq e))
theorem rgb_2 {h : UInt64} (e0 : ((tr6 h).fmod 6 == 0) = false) (e1 : ((tr6 h).fmod 6 == 1) = false) (e : ((tr6 h).fmod 6 == 2) = true) : rgbF h = (p6, 4607182418800017408, t6 h) := (if_neg (nb e0)).trans ((if_neg (nb e1)).trans (if_pos (eq_of_beq e)))
theorem rgb_3 {h : UInt64} (e0 : ((tr6 h).fmod 6 == 0) = false) (e1 : ((tr6 h).fmod 6 == 1) = false) (e2 : ((tr6 h).fmod 6 == 2) = false) (e : ((tr6 h).fmod 6 == 3) = true) : rgbF h = (p6, q6 h, 4607182418800017408) := (if_neg (nb e0)).trans ((if_neg (nb e1)).trans ((if_neg (nb e2)).trans (if_pos (eq_of_beq e))))
theorem rgb_4 {h : UInt64} (e0 : ((tr6 h).fmod 6 == 0) = false) (e1 : ((tr6 h).fmod 6 == 1) = false) (e2 : ((tr6 h).fmod 6 == 2) = false) (e3 : ((tr6 h).fmod 6 == 3) = false) (e : ((tr6 h).fmod 6 == 4) = true) : rgbF h = (t6 h, p6, 4607182418800017408) := (if_neg (nb e0)).trans ((if_neg (nb e1)).trans ((if_neg (nb e2)).trans ((if_neg (nb e3)).trans (if_pos (eq_of_beq e)))))
theorem rgb_5 {h : UInt64} (e0 : ((tr6 h).fmod 6 == 0) = false) (e1 : ((tr6 h).fmod 6 == 1) = false) (e2 : ((tr6 h).fmod 6 == 2) = false) (e3 : ((tr6 h).fmod 6 == 3) = false) (e4 : ((tr6 h).fmod 6 == 4) = false) : rgbF h = (4607182418800017408, p6, q6 h) := (if_neg (nb e0)).trans ((if_neg (nb e1)).trans ((if_neg (nb e2)).trans ((if_neg (nb e3)).trans (if_neg (nb e4)))))
theorem noEq10 : ¬ (Float64.cmp oneF 0 == some .eq) = true := by decide +kernel
theorem rgbS (w mean mg mb) : CallS w mean mg mb 35 1 spRgb := by
  rintro _ K ⟨h, rfl, hg, hK⟩ vs N hr
  obtain ⟨t1, t2, t3, rfl, p1, p2, p3⟩ := three_flt hr
  clear hr
  have hb1 := Int.fmod_nonneg_of_pos (tr6 h) (b := 6) (by decide)
  have hb2 := Int.fmod_lt_of_pos (tr6 h) (b := 6) (by decide)
  unfold Cl; k_fill
  intro dp un gd cn cs a ccd cl outer A₀ base h₀ L m news s Q E B F X NN T hk hd hu hP hret
  refine wpAny_call ?_
  k_dflt ktr_enter
  rename Fr _ _ _ _ => F1
  rename News _ _ _ _ => N1
  rename Below _ _ _ _ => B1
  rename Frag.In _ _ => X1
  rename Top _ _ _ _ _ _ => T1
  refine body_sound (W := news) (F := []) (n := 60) (K := fun v => v = svC (rgbF h)) (σ := [("h", .flt h), ("s", .flt oneF), ("v", .flt oneF)]) (parM_ok (tb := []) (dd := 0) (fl := true) (fun _ _ h => (nomatch h)) B1 X1 T1 (by rfl) (by ktr_room) (by ktr_units)) (by rfl) X1 T1 (by passes_own) ?_ (fun _ => Nat.succ_pos _) F1 (fun p hp => nomatch hp) N1 (vars_cons (v := .float h t1) (by rfl) (by rfl) (.flt _ _ p1) (vars_cons (v := .float oneF t2) (by rfl) (by rfl) (.flt _ _ p2) (vars_cons (v := .float oneF t3) (by rfl) (by rfl) (.flt _ _ p3) vars_nil))) ?_
  · refine And.intro (fun h => absurd h noEq10) (fun _ => ?_)
    refine And.intro ⟨hg.nan, hg.inf⟩ (And.intro hg.sm (And.intro (by decide) ?_))
    refine And.intro (fun e => col_of (rgb_0 e)) (fun e0 => ?_)
    refine And.intro (fun e => col_of (rgb_1 e0 e)) (fun e1 => ?_)
    refine And.intro (fun e => col_of (rgb_2 e0 e1 e)) (fun e2 => ?_)
    refine And.intro (fun e => col_of (rgb_3 e0 e1 e2 e)) (fun e3 => ?_)
    refine And.intro (fun e => col_of (rgb_4 e0 e1 e2 e3 e)) (fun e4 => ?_)
    refine And.intro (fun e => col_of (rgb_5 e0 e1 e2 e3 e4)) (fun e5 => ?_)
    exact (rgb_none hb1 hb2 (nb e0) (nb e1) (nb e2) (nb e3) (nb e4) (nb e5)).elim
  · rintro v sv h' tk m' tl l2 F2 N2 hsub ap rfl rep
    exact leaveK_ F2 N2 fun F3 N3 => hret v tl h' tk F3 (fun p hp => N3 p (hsub p hp)) ap ⟨_, hK, rep.mono fun p hp => List.mem_append.mpr (.inl (by simpa using hp))⟩
end Mine
end
section
open PySem PySem.W PyProof.Rows
set_option Elab.async false
set_option maxRecDepth 100000
set_option maxHeartbeats 0
namespace Mine
noncomputable abbrev hueOf (p : Int) : UInt64 := Float64.ofFrac (decide (p < 0) != decide ((768 : Int) < 0)) p.natAbs (Int.natAbs 768)
noncomputable def colF (p : Int) : UInt64 × UInt64 × UInt64 := rgbF (hueOf p)
noncomputable abbrev D7 (k : Nat) : UInt64 := Float64.ofFrac false k 128
/-- the colour of a place, told in 128th parts -/
noncomputable def tabK (n : Nat) : Nat × Nat × Nat :=
  if n / 128 = 0 then (128, n % 128, 0) else if n / 128 = 1 then (128 - n % 128, 128, 0) else if n / 128 = 2 then (0, 128, n % 128) else if n / 128 = 3 then (0, 128 - n % 128, 128)
  else if n / 128 = 4 then (n % 128, 0, 128) else (128, 0, 128 - n % 128)
noncomputable abbrev tabD (n : Nat) : UInt64 × UInt64 × UInt64 := (D7 (tabK n).1, D7 (tabK n).2.1, D7 (tabK n).2.2)
theorem d_one : D7 128 = 4607182418800017408 := by decide +kernel
theorem d_zero : D7 0 = 0 := by decide +kernel
theorem st_h6 : ∀ n < 768, h6 (hueOf (Int.ofNat n)) = D7 n := by decide +kernel
theorem st_tr : ∀ n < 768, Flt.toInt Float64.truncOf (D7 n) = Int.ofNat (n / 128) := by decide +kernel
theorem st_fr : ∀ n < 768, Float64.sub (D7 n) (Float64.ofInt (Int.ofNat (n / 128))) = D7 (n % 128) := by decide +kernel
theorem st_q : ∀ k < 128, Float64.mul 4607182418800017408 (Float64.sub 4607182418800017408 (Float64.mul 4607182418800017408 (D7 k))) = D7 (128 - k) := by decide +kernel
theorem st_t : ∀ k < 128, Float64.mul 4607182418800017408 (Float64.sub 4607182418800017408 (Float64.mul 4607182418800017408 (Float64.sub 4607182418800017408 (D7 k)))) = D7 k := by decide +kernel
theorem st_p : p6 = D7 0 := by decide +kernel
theorem col_tab {n : Nat} (h : n < 768) : colF (Int.ofNat n) = tabD n := by
  have a := st_h6 n h
  have b := st_tr n h
  have c := st_fr n h
  have d := st_q (n % 128) (Nat.mod_lt _ (by decide))
  have e := st_t (n % 128) (Nat.mod_lt _ (by decide))
  have hi : n / 128 = 0 ∨ n / 128 = 1 ∨ n / 128 = 2 ∨ n / 128 = 3 ∨ n / 128 = 4 ∨ n / 128 = 5 := by omega
  have tr : tr6 (hueOf (Int.ofNat n)) = Int.ofNat (n / 128) := by unfold tr6; rw [a]; exact b
  have fr : fr6 (hueOf (Int.ofNat n)) = D7 (n % 128) := by unfold fr6; rw [tr, a]; exact c
  have q : q6 (hueOf (Int.ofNat n)) = D7 (128 - n % 128) := by unfold q6; rw [fr]; exact d
  have t : t6 (hueOf (Int.ofNat n)) = D7 (n % 128) := by unfold t6; rw [fr]; exact e
  unfold colF rgbF tabD tabK
  rw [tr, q, t, st_p, ← d_one]
  rcases hi with hi | hi | hi | hi | hi | hi <;> rw [hi] <;> rfl

noncomputable def goodB (h : UInt64) : Bool := Float64.isNaN (h6 h) == false && Float64.isInf (h6 h) == false && decide ((tr6 h).natAbs < 10) && Float64.isInf h == false
theorem st_gb : ∀ n < 768, (Float64.isNaN (D7 n) == false && Float64.isInf (D7 n) == false && Float64.isInf (hueOf (Int.ofNat n)) == false) = true := by decide +kernel
theorem goodAll : ∀ n < 768, goodB (hueOf (Int.ofNat n)) = true := fun n h => by
  have a := st_gb n h
  have t : tr6 (hueOf (Int.ofNat n)) = Int.ofNat (n / 128) := by unfold tr6; rw [st_h6 n h]; exact st_tr n h
  simp only [Bool.and_eq_true] at a
  unfold goodB
  rw [t, st_h6 n h, a.1.1, a.1.2, a.2]
  have : (Int.ofNat (n / 128)).natAbs < 10 := by show n / 128 < 10; omega
  rw [decide_eq_true this]; rfl
theorem tabK_le {n : Nat} (h : n < 768) : (tabK n).1 ≤ 128 ∧ (tabK n).2.1 ≤ 128 ∧ (tabK n).2.2 ≤ 128 := by
  have := Nat.mod_lt n (y := 128) (by decide)
  unfold tabK
  repeat' split
  all_goals (refine ⟨?_, ?_, ?_⟩ <;> dsimp only <;> omega)
theorem s10 : Float64.sub oneF 0 = oneF := by decide +kernel
theorem st_d : ∀ j < 129, Float64.div (Float64.sub oneF (D7 j)) oneF = D7 (128 - j) := by decide +kernel
theorem st_self : ∀ j < 129, feq (D7 j) (D7 j) = true := by decide +kernel
theorem st_one : ∀ j < 129, feq (D7 j) oneF = decide (j = 128) := by decide +kernel
/-- the hue's numerator, fast -/
noncomputable def numK (k : Nat × Nat × Nat) : UInt64 :=
  if k.1 = 128 then Float64.sub (D7 (128 - k.2.2)) (D7 (128 - k.2.1)) else if k.2.1 = 128 then Float64.sub (Float64.add 4611686018427387904 (D7 (128 - k.1))) (D7 (128 - k.2.2)) else Float64.sub (Float64.add 4616189618054758400 (D7 (128 - k.2.1))) (D7 (128 - k.1))
theorem hue_num {i j k : Nat} (hi : i ≤ 128) (hj : j ≤ 128) (hk : k ≤ 128) : hueF (D7 i) (D7 j) (D7 k) = (Float64.divmod (Float64.div (numK (i, j, k)) 4618441417868443648) 4607182418800017408).snd := by
  unfold hueF numK
  rw [s10, st_d i (by omega), st_d j (by omega), st_d k (by omega), st_one i (by omega), st_one j (by omega)]
  simp only [decide_eq_true_eq]
noncomputable def goodN (n : Nat) : Bool :=
  let x := Float64.add (Float64.mul (Float64.divmod (Float64.div (numK (tabK n)) 4618441417868443648) 4607182418800017408).snd (Float64.ofInt 768)) 4602678819172646912
  Float64.isNaN x == false && Float64.isInf x == false && Flt.toInt Float64.truncOf x == Int.ofNat n
theorem st_n1 : ∀ n < 384, goodN n = true := by decide +kernel
theorem st_n2 : ∀ n < 384, goodN (384 + n) = true := by decide +kernel
noncomputable def mm (n : Nat) : Bool := fmax3 (tabD n).1 (tabD n).2.1 (tabD n).2.2 == 4607182418800017408 && fmin3 (tabD n).1 (tabD n).2.1 (tabD n).2.2 == 0
theorem st_mm : ∀ n < 768, mm n = true := by decide +kernel
noncomputable abbrev atC (c : UInt64 × UInt64 × UInt64) : UInt64 := Float64.add (Float64.mul (hueF c.1 c.2.1 c.2.2) (Float64.ofInt 768)) 4602678819172646912
structure GoodC (c : UInt64 × UInt64 × UInt64) (p : Int) : Prop where
  mx : fmax3 c.1 c.2.1 c.2.2 = 4607182418800017408
  mn : fmin3 c.1 c.2.1 c.2.2 = 0
  nan : Float64.isNaN (atC c) = false
  inf : Float64.isInf (atC c) = false
  int : Flt.toInt Float64.truncOf (atC c) = p
theorem good_colN {n : Nat} (h : n < 768) : GoodC (colF (Int.ofNat n)) (Int.ofNat n) := by
  rw [col_tab h]
  have m := st_mm n h
  have g : goodN n = true := by
    by_cases h' : n < 384
    · exact st_n1 n h'
    · have := st_n2 (n - 384) (by omega)
      rwa [show 384 + (n - 384) = n by omega] at this
  have l := tabK_le h
  have e := hue_num l.1 l.2.1 l.2.2
  unfold mm at m
  simp only [Bool.and_eq_true, beq_iff_eq] at m
  unfold goodN at g
  simp only [Bool.and_eq_true, beq_iff_eq] at g
  exact ⟨m.1, m.2, by unfold atC; rw [e]; exact g.1.1, by unfold atC; rw [e]; exact g.1.2, by unfold atC; rw [e]; exact g.2⟩
theorem good_col {p : Int} (h0 : 0 ≤ p) (h1 : p < 768) : GoodC (colF p) p := by
  obtain ⟨n, rfl⟩ := Int.eq_ofNat_of_zero_le h0
  exact good_colN (by omega)
/-- a colour that is itself -/
noncomputable def selfC (c : UInt64 × UInt64 × UInt64) : Bool := feq c.1 c.1 && feq c.2.1 c.2.1 && feq c.2.2 c.2.2
theorem self_fm (x : Int) : selfC (colF (x.fmod 768)) = true := by
  have h0 : 0 ≤ x.fmod 768 := Int.fmod_nonneg_of_pos x (by decide)
  have h1 : x.fmod 768 < 768 := Int.fmod_lt_of_pos x (by decide)
  obtain ⟨n, e⟩ := Int.eq_ofNat_of_zero_le h0
  have hn : n < 768 := by omega
  have l := tabK_le hn
  rw [e]
  show selfC (colF (Int.ofNat n)) = true
  rw [col_tab hn]
  unfold selfC tabD
  rw [st_self _ (by omega), st_self _ (by omega), st_self _ (by omega)]; rfl
end Mine
end
section
open PySem PySem.W PyProof.Rows PySem.Spec PySem.Calls Lean Meta Elab Tactic
set_option Elab.async false
set_option maxRecDepth 100000
set_option maxHeartbeats 400000
namespace Mine
theorem cl_use {w : World} {mean : ExcName → Option Value} {mg mb : PySem.Str → Option Value} {f : Addr} {dd : Nat} {vs : List Value} {Pre : List (Addr × Obj) → Prop} {Out : List (Addr × Obj) → List (Addr × Obj) → Value → Prop}
    {dp un : Nat} {gd : Option (List Code)} {cn : PySem.Str} {cs : Scope} {L a : Addr} {ccd : Value} {cl : List (PySem.Str × Addr)} {outer : List Env} {A₀ : Around} {base h₀ : Heap} {m : PySem.Str → Option Value} {news : List (Addr × Obj)} {s : Shared}
    {Q E : Value → Shared → Prop}
    (B : Below A₀ base outer h₀) (F : Fr h₀ L s.heap m) (X : (KF w.params).In h₀) (N : News h₀ L s.heap news) (T : Top QV LO mean mg mb h₀) (hk : cs.kind = .function) (hd : dp + dd < recursionLimit) (hu : un + 8 * dd < cLine) 
    (C : Cl w mean mg mb f dd vs Pre Out) (hp : Pre news)
    (ret : ∀ r tl h' tk', Fr h₀ L h' m → News h₀ L h' (tl ++ news) → (∀ q ∈ news, ∀ p ∈ tl, q.1 ≠ p.1) → Out news tl r → Q r { s with heap := h', toks := tk' }) :
    wpAny (model PySem.Challenge.rw_wf0099_01.prog w) (ktrTop dp un gd cn cs L a ccd cl outer) (call (.ref f) vs) Q E s := C _ _ _ _ _ _ _ _ _ _ _ _ _ _ _ _ _ _ B F X N T hk hd hu hp ret
theorem good_hue {p : Int} (h0 : 0 ≤ p) (h1 : p < 768) : GoodH (hueOf p) ∧ Float64.isInf (hueOf p) = false := by
  obtain ⟨n, rfl⟩ := Int.eq_ofNat_of_zero_le h0
  have := goodAll n (by omega)
  unfold goodB at this
  simp only [Bool.and_eq_true, beq_iff_eq, decide_eq_true_eq] at this
  obtain ⟨⟨⟨a, b⟩, c⟩, d⟩ := this
  exact ⟨⟨a, b, Nat.lt_trans c (by decide +kernel)⟩, d⟩
theorem Cl.up {w : World} {mean : ExcName → Option Value} {mg mb : PySem.Str → Option Value} {f : Addr} {d d' : Nat} {vs : List Value} {Pre : List (Addr × Obj) → Prop} {Out : List (Addr × Obj) → List (Addr × Obj) → Value → Prop} (C : Cl w mean mg mb f d vs Pre Out) (h : d ≤ d') : Cl w mean mg mb f d' vs Pre Out :=
  fun dp un gd cn cs a ccd cl outer A₀ base h₀ L m news s Q E B F X N T hk hd hu => C dp un gd cn cs a ccd cl outer A₀ base h₀ L m news s Q E B F X N T hk (Nat.lt_of_le_of_lt (Nat.add_le_add_left h _) hd) (Nat.lt_of_le_of_lt (Nat.add_le_add_left (Nat.mul_le_mul_left _ h) _) hu)
theorem CallS.up {w : World} {mean : ExcName → Option Value} {mg mb : PySem.Str → Option Value} {f : Addr} {d d' : Nat} {sp : Spc} (C : CallS w mean mg mb f d sp) (h : d ≤ d') : CallS w mean mg mb f d' sp :=
  fun l K hs vs N r => (C l K hs vs N r).up h
theorem tb_ok {w : World} {mean : ExcName → Option Value} {mg mb : PySem.Str → Option Value} {dd : Nat} {tb : List (Nat × Spc)} (h : ∀ p ∈ tb, CallS w mean mg mb p.1 dd p.2) : ∀ n sp, tb.lookup n = some sp → CallS w mean mg mb n dd sp := fun _ _ e => h _ (lookup_mem e)
theorem tb_nil {w : World} {mean : ExcName → Option Value} {mg mb : PySem.Str → Option Value} {dd : Nat} : ∀ p ∈ ([] : List (Nat × Spc)), CallS w mean mg mb p.1 dd p.2 := fun _ h => nomatch h
noncomputable def spPaint (l : List SV) (K : SV → Prop) : Prop := ∃ k, l = [.int k] ∧ K (svC (colF (k.fmod 768)))
set_option exponentiation.threshold 2000 in
theorem lt_1023 {n : Nat} (h : n < 768) : n < 2 ^ 1023 := Nat.lt_of_lt_of_le h (by decide)
theorem one_int {N : Led} {k : Int} {vs : List Value} (h : Reps N [.int k] vs) : ∃ t, vs = [.int k t] := by
  rcases h with _ | ⟨r1, r2⟩
  cases r1; cases r2
  exact ⟨_, rfl⟩
theorem paintS (w mean mg mb) : CallS w mean mg mb 156 2 spPaint := by
  rintro _ K ⟨k, rfl, hK⟩ vs N hr
  obtain ⟨t1, rfl⟩ := one_int hr
  clear hr
  have h0 := Int.fmod_nonneg_of_pos k (b := 768) (by decide)
  have h1 := Int.fmod_lt_of_pos k (b := 768) (by decide)
  obtain ⟨hgh, hin⟩ := good_hue h0 h1
  unfold Cl; k_fill
  intro dp un gd cn cs a ccd cl outer A₀ base h₀ L m news s Q E B F X NN T hk hd hu hP hret
  refine wpAny_call ?_
  k_dflt ktr_enter
  rename Fr _ _ _ _ => F1
  rename News _ _ _ _ => N1
  rename Below _ _ _ _ => B1
  rename Frag.In _ _ => X1
  rename Top _ _ _ _ _ _ => T1
  refine body_sound (W := news) (F := []) (n := 60) (K := fun v => v = svC (colF (k.fmod 768))) (σ := [("place", .int k)]) (parM_ok (tb := [(35, spRgb)]) (dd := 1) (fl := true) (tb_ok (List.forall_mem_cons.mpr ⟨rgbS _ _ _ _, tb_nil⟩)) B1 X1 T1 (by rfl) (by ktr_room) (by ktr_units)) (by rfl) X1 T1 (by passes_own) ?_ (fun _ => Nat.succ_pos _) F1 (fun p hp => nomatch hp) N1 (vars_cons (v := .int k t1) (by rfl) (by rfl) (.int _ _) vars_nil) ?_
  · refine And.intro (by decide) (And.intro ⟨rfl, by decide, lt_1023 (by omega)⟩ ?_)
    exact ⟨_, rfl, hgh, rfl⟩
  · rintro v sv h' tk m' tl l2 F2 N2 hsub ap rfl rep
    exact leaveK_ F2 N2 fun F3 N3 => hret v tl h' tk F3 (fun p hp => N3 p (hsub p hp)) ap ⟨_, hK, rep.mono fun p hp => List.mem_append.mpr (.inl (by simpa using hp))⟩
end Mine
end
section
open PySem PySem.W PyProof.Rows PySem.Spec PySem.Calls Lean Meta Elab Tactic
set_option Elab.async false
set_option maxRecDepth 100000
set_option maxHeartbeats 0
namespace Mine
theorem two_any {N : Led} {x y : SV} {vs : List Value} (h : Reps N [x, y] vs) : ∃ v w, vs = [v, w] ∧ Rep N x v ∧ Rep N y w := by
  rcases h with _ | ⟨r1, _ | ⟨r2, r3⟩⟩
  cases r3
  exact ⟨_, _, rfl, r1, r2⟩
noncomputable def spMirror (l : List SV) (K : SV → Prop) : Prop := ∃ c d i j, l = [svC c, svC d] ∧ GoodC c i ∧ GoodC d j ∧ K (svC (colF ((2 * i - j).fmod 768)))
theorem tb3 (w mean mg mb) : ∀ p ∈ [(21, spHue), (28, spHue), (156, spPaint)], CallS w mean mg mb p.1 2 p.2 :=
  List.forall_mem_cons.mpr ⟨(hlsS _ _ _ _).up (by decide), List.forall_mem_cons.mpr ⟨(hsvS _ _ _ _).up (by decide), List.forall_mem_cons.mpr ⟨paintS _ _ _ _, tb_nil⟩⟩⟩
theorem mulOk2 {b : Int} : IntMulOk 2 b := PySem.IntMulOk.of_left (PySem.intBits_le_64 (by decide) (by decide))
theorem mirrorS (w mean mg mb) : CallS w mean mg mb 163 4 spMirror := by
  rintro _ K ⟨c, d, i, j, rfl, gc, gd', hK⟩ vs N hr
  obtain ⟨u, v, rfl, ru, rv⟩ := two_any hr
  clear hr
  unfold Cl; k_fill
  intro dp un gd cn cs a ccd cl outer A₀ base h₀ L m news s Q E B F X NN T hk hd hu hP hret
  refine wpAny_call ?_
  k_dflt ktr_enter
  rename Fr _ _ _ _ => F1
  rename News _ _ _ _ => N1
  rename Below _ _ _ _ => B1
  rename Frag.In _ _ => X1
  rename Top _ _ _ _ _ _ => T1
  refine body_sound (W := news) (F := N) (n := 60) (K := fun v => v = svC (colF ((2 * i - j).fmod 768))) (σ := [("over", svC c), ("under", svC d)]) (parM_ok (dd := 2) (fl := true) (tb_ok (tb3 _ _ _ _)) B1 X1 T1 (by rfl) (by ktr_room) (by ktr_units)) (by rfl) X1 T1 (by passes_own) ?_ (fun _ => Nat.succ_pos _) F1 (fun p hp => N1 p (hP p hp)) N1 (vars_cons (v := u) (by rfl) (by rfl) ru (vars_cons (v := v) (by rfl) (by rfl) rv vars_nil)) ?_
  · refine ⟨_, _, _, rfl, ⟨gc.mx, gc.mn⟩, fun o1 o2 => ?_⟩
    refine And.intro (by decide) (And.intro ⟨gc.nan, gc.inf⟩ ?_)
    refine ⟨_, _, _, rfl, ⟨gd'.mx, gd'.mn⟩, fun o1 o2 => ?_⟩
    refine And.intro (by decide) (And.intro ⟨gd'.nan, gd'.inf⟩ ?_)
    refine And.intro mulOk2 ⟨_, rfl, ?_⟩
    rw [← gc.int, ← gd'.int]
  · rintro v sv h' tk m' tl l2 F2 N2 hsub ap rfl rep
    exact leaveK_ F2 N2 fun F3 N3 => hret v tl h' tk F3 (fun p hp => N3 p (hsub p hp)) ap ⟨_, hK, rep⟩
noncomputable def spTurned (l : List SV) (K : SV → Prop) : Prop := ∃ c g i, l = [svC c, .int g] ∧ GoodC c i ∧ K (svC (colF ((i + g).fmod 768)))
theorem tb2 (w mean mg mb) : ∀ p ∈ [(28, spHue), (156, spPaint)], CallS w mean mg mb p.1 2 p.2 :=
  List.forall_mem_cons.mpr ⟨(hsvS _ _ _ _).up (by decide), List.forall_mem_cons.mpr ⟨paintS _ _ _ _, tb_nil⟩⟩
theorem turnedS (w mean mg mb) : CallS w mean mg mb 170 4 spTurned := by
  rintro _ K ⟨c, g, i, rfl, gc, hK⟩ vs N hr
  obtain ⟨u, v, rfl, ru, rv⟩ := two_any hr
  clear hr
  unfold Cl; k_fill
  intro dp un gd cn cs a ccd cl outer A₀ base h₀ L m news s Q E B F X NN T hk hd hu hP hret
  refine wpAny_call ?_
  k_dflt ktr_enter
  rename Fr _ _ _ _ => F1
  rename News _ _ _ _ => N1
  rename Below _ _ _ _ => B1
  rename Frag.In _ _ => X1
  rename Top _ _ _ _ _ _ => T1
  refine body_sound (W := news) (F := N) (n := 60) (K := fun v => v = svC (colF ((i + g).fmod 768))) (σ := [("one", svC c), ("gain", .int g)]) (parM_ok (dd := 2) (fl := true) (tb_ok (tb2 _ _ _ _)) B1 X1 T1 (by rfl) (by ktr_room) (by ktr_units)) (by rfl) X1 T1 (by passes_own) ?_ (fun _ => Nat.succ_pos _) F1 (fun p hp => N1 p (hP p hp)) N1 (vars_cons (v := u) (by rfl) (by rfl) ru (vars_cons (v := v) (by rfl) (by rfl) rv vars_nil)) ?_
  · refine ⟨_, _, _, rfl, ⟨gc.mx, gc.mn⟩, fun o1 o2 => ?_⟩
    refine And.intro (by decide) (And.intro ⟨gc.nan, gc.inf⟩ ?_)
    refine ⟨_, rfl, ?_⟩
    rw [← gc.int]
  · rintro v sv h' tk m' tl l2 F2 N2 hsub ap rfl rep
    exact leaveK_ F2 N2 fun F3 N3 => hret v tl h' tk F3 (fun p hp => N3 p (hsub p hp)) ap ⟨_, hK, rep⟩
end Mine
end
section
open PySem PySem.W PyProof.Rows PySem.Spec PySem.Calls Lean Meta Elab Tactic
set_option Elab.async false
set_option maxRecDepth 100000
set_option maxHeartbeats 2000000
namespace Mine
structure Hid (P : Prop) : Prop where
  out : P
theorem newsNone {h₀ h : Heap} {L : Addr} {news : List (Addr × Obj)} (_ : News h₀ L h news) : News h₀ L h [] := fun _ hp => nomatch hp
theorem leave_news {h₀ s₀ g' h' : Heap} {L L' : Addr} {news tl : List (Addr × Obj)} {m' : PySem.Str → Option Value} (N : News h₀ L s₀ news) (G : GSub s₀ g' []) (F' : Fr g' L' h' m') (kN : News h₀ L h' tl) : News h₀ L h' (tl ++ news) := by
  intro p hp
  rcases List.mem_append.mp hp with h | h
  · exact kN p h
  · exact ⟨F'.keep _ _ (G _ _ (N p h).1 (fun e => nomatch e)), (N p h).2⟩
theorem leave_apart {h₀ s₀ g' h' : Heap} {L L' : Addr} {news tl : List (Addr × Obj)} (N : News h₀ L s₀ news) (G : GSub s₀ g' []) {l : List (Addr × Obj)} (kN : News g' L' h' l) (hs : ∀ p ∈ tl, p ∈ l) : ∀ q ∈ news, ∀ p ∈ tl, q.1 ≠ p.1 := by
  intro q hq p hp e
  have a := G _ _ (N q hq).1 (fun e => nomatch e)
  have b := (kN p (hs p hp)).2.2
  rw [e, b] at a; cases a
theorem own_leave {h₀ g' h' : Heap} {L L' : Addr} {m m' : PySem.Str → Option Value} {news l1 l2 : List (Addr × Obj)} {s : Shared} {Q : Value → Shared → Prop} {Out : List (Addr × Obj) → List (Addr × Obj) → Value → Prop} {r : Value} {tk : Nat}
    (hret : ∀ r tl h' tk', Fr h₀ L h' m → News h₀ L h' (tl ++ news) → (∀ q ∈ news, ∀ p ∈ tl, q.1 ≠ p.1) → Out news tl r → Q r { s with heap := h', toks := tk' })
    (HN : Hid (News h₀ L s.heap news)) (HG : Hid (GSub s.heap g' [])) (kF : Fr h₀ L h' m) (kN : News h₀ L h' l2) (gF : Fr g' L' h' m') (gN : News g' L' h' l1) (tl : List (Addr × Obj))
    (m1 : ∀ p ∈ tl, p ∈ l1) (m2 : ∀ p ∈ tl, p ∈ l2) (out : Out news tl r) : Q r { s with heap := h', toks := tk } :=
  hret r tl h' tk kF (leave_news HN.out HG.out gF fun p hp => kN p (m2 p hp)) (leave_apart HN.out HG.out gN m1) out
theorem all1 {p : Addr × Obj} {l : List (Addr × Obj)} (h : p ∈ l) : ∀ q ∈ [p], q ∈ l := by
  intro q hq
  cases hq with
  | head => exact h
  | tail _ h => cases h
noncomputable abbrev farS (k c : Int) : Int := if (c - k).fmod 768 < (k - c).fmod 768 then (c - k).fmod 768 else (k - c).fmod 768
noncomputable abbrev mxS (k c : Int) : Int := if 0 > 256 - farS k c then 0 else 256 - farS k c
noncomputable abbrev mnS (k c : Int) : Int := if 128 < mxS k c then 128 else mxS k c
noncomputable abbrev shS (k c : Int) : UInt64 := Float64.ofFrac (decide (mnS k c < 0) != decide ((128 : Int) < 0)) (mnS k c).natAbs (Int.natAbs 128)
noncomputable def shineF (k : Int) : UInt64 × UInt64 × UInt64 := (shS k 0, shS k 256, shS k 512)
noncomputable def spShine (l : List SV) (K : SV → Prop) : Prop := ∃ k, l = [.int k] ∧ K (svC (shineF k))
theorem mnS_lt (k c : Int) : (mnS k c).natAbs < 2 ^ 1023 := by
  refine lt_1023 ?_
  have h1 : mxS k c ≥ 0 := by unfold mxS; split <;> omega
  generalize hm : mxS k c = y at h1
  unfold mnS
  rw [hm]
  split <;> omega
theorem shineS (w mean mg mb) : CallS w mean mg mb 182 4 spShine := by
  rintro _ K ⟨k, rfl, hK⟩ vs N hr
  obtain ⟨t1, rfl⟩ := one_int hr
  clear hr
  unfold Cl; k_fill
  intro dp un gd cn cs a ccd cl outer A₀ base h₀ L m news s Q E B F X NN T hk hd hu hP hret
  refine wpAny_call ?_
  k_dflt ktr_enter
  rename Fr _ _ _ _ => F1
  rename News _ _ _ _ => N1
  rename Below _ _ _ _ => B1
  rename Frag.In _ _ => X1
  rename Top _ _ _ _ _ _ => T1
  refine body_sound (W := news) (F := []) (n := 60) (K := fun v => v = svC (shineF k)) (σ := [("place", .int k)]) (parM_ok (tb := []) (dd := 1) (fl := false) (tb_ok tb_nil) B1 X1 T1 (by rfl) (by ktr_room) (by ktr_units)) (by rfl) X1 T1 (by passes_own) ?_ (fun h => nomatch h) F1 (fun p hp => nomatch hp) N1 (vars_cons (v := .int k t1) (by rfl) (by rfl) (.int _ _) vars_nil) ?_
  · refine And.intro (by decide) (And.intro (by decide) (And.intro ⟨by decide, mnS_lt k 0⟩ ?_))
    refine And.intro (by decide) (And.intro (by decide) (And.intro ⟨by decide, mnS_lt k 256⟩ ?_))
    refine And.intro (by decide) (And.intro (by decide) (And.intro ⟨by decide, mnS_lt k 512⟩ ?_))
    rfl
  · rintro v sv h' tk m' tl l2 F2 N2 hsub ap rfl rep
    exact leaveK_ F2 N2 fun F3 N3 => hret v tl h' tk F3 (fun p hp => N3 p (hsub p hp)) ap ⟨_, hK, rep.mono fun p hp => List.mem_append.mpr (.inl (by simpa using hp))⟩
end Mine
end
section
open PySem PySem.W PyProof.Rows PySem.Spec PySem.Calls Lean Meta Elab Tactic
open PyProof.Rows.LCg PyProof.Rows.LCt
set_option Elab.async false
set_option maxRecDepth 100000
set_option maxHeartbeats 2000000
namespace Mine
section
variable {prog : Program} {w : World} {A : Around} {E : Value → Shared → Prop} {s : Shared} {h₀ : Heap} {L : Addr} {m : PySem.Str → Option Value} {env : Env}
theorem txt_st {cls : String} {x : PySem.Str} {t : Tok} {I : Addr} : ∀ i (h h' : Heap) (o : Obj) (nw : List (Addr × Obj)), h.IsStrIter I cls x t i → h.get? I = some o → h'.get? I = some o → (∀ b o, h₀.get? b = some o → h'.get? b = some o) → News h₀ L h' nw → True → h'.IsStrIter I cls x t i :=
  fun i h h' o nw st e e' _ _ _ => by
    obtain ⟨o', q, r⟩ := st
    rw [e] at q; cases q
    exact ⟨o, e', r⟩
theorem pyIter_txt {z : PySem.Str} {t : Tok} {Q : Value → Shared → Prop} (hh : A.handled = none)
    (hQ : ∀ (cls : String) (o : Obj), Walks prog w A s.heap.objs.size [s.heap.objs.size] [s.heap.objs.size] z.cps.size (SignAt z) (fun i h => h.IsStrIter s.heap.objs.size cls z t i) → (s.heap.push o).IsStrIter s.heap.objs.size cls z t 0 → Q (.ref s.heap.objs.size) { s with heap := s.heap.push o }) :
    wpAny (model prog w) A (pyIter (.str z t)) Q E s := by
  cases ha : z.cps.all (· < 128)
  · exact wpAny_pyIter_wide ha (hQ _ _ (Walks.strWide hh _ z t) ⟨_, Heap.get?_push_size _ rfl, rfl, rfl⟩)
  · exact wpAny_pyIter_ascii ha (hQ _ _ (Walks.strAscii hh _ z t) ⟨_, Heap.get?_push_size _ rfl, rfl, rfl⟩)
/-- what a comprehension over a text asks of the iterable's value -/
noncomputable def SrcX (prog : Program) (w : World) (A : Around) (h₀ : Heap) (L : Addr) (m : PySem.Str → Option Value) (env : Env) (elt : PySem.Expr) (x : PySem.Str) (scope : Scope) (cl : List (PySem.Str × Addr)) (Fin : Shared → List Value → List (Addr × Obj) → Prop) (xv : Value) (s₁ : Shared) : Prop :=
  ∃ z t news, xv = .str z t ∧ A.handled = none ∧ Fr h₀ L s₁.heap m ∧ News h₀ L s₁.heap news ∧ z.cps.size ≤ sizeLine ∧
    ∀ s₂ : Shared, (∃ h, s₂ = { s₁ with heap := h }) → CompRest prog w A h₀ L m env elt x scope cl s₂ (fun _ => True) (SignAt z) (Fin s₂) z.cps.size 0 [] news
theorem ListComp_X {elt iter : PySem.Expr} {x : PySem.Str} {px : Pos} {scope : Scope} {cl : List (PySem.Str × Addr)} {pos : Pos} {Q : Value → Shared → Prop} (_F₀ : Fr h₀ L s.heap m)
    (hclos : closureFor scope env = pure cl) (hcell : ∀ y ∈ scope.names, y.2 ≠ .cell) (hkind : scope.kind = .function)
    (hnames : ∀ y ∈ scope.names, y.2 = .local → scope.names.lookup y.1 = some .local) (hx : scope.names.lookup x = some .local)
    (h : wpAny (model prog w) A (eval iter env) (SrcX prog w A h₀ L m env elt x scope cl (fun s₂ => FinE h₀ L m s₂ Q)) E s)
    (hs : ∀ x, foldedSetIterable iter env x = pure x) :
    wpAny (model prog w) A (eval (.ListComp elt [⟨.Name x px, iter, [], 0⟩] scope pos) env) Q E s := by
  rw [eval_ListComp]
  refine wpAny_comprehension_free (use := none) rfl hs hclos hkind hnames (wpAny_mono h (fun xv s₁ h₁ => ?_) fun _ _ e => e)
  rcases h₁ with ⟨z, t, news, rfl, hh, F, N, hsz, R⟩
  refine pyIter_txt hh fun cls o W st => ?_
  have up : ∀ b o', s₁.heap.get? b = some o' → (s₁.heap.push o).get? b = some o' := fun b o' e => Heap.get?_push_of_some _ e
  refine block_U (s₂ := { s₁ with heap := s₁.heap.push o }) W hsz (fun i h st => by obtain ⟨o, e, _⟩ := st; exact ⟨o, e⟩) txt_st hcell hkind hx st (fun b hb => ?_)
    (F.keeps up) (N.grown up) (Nat.ne_of_lt F.ns.lt) (next_is_new F) (fun p hp => Nat.ne_of_lt (Heap.lt_size (N p hp).1)) trivial (R _ ⟨_, rfl⟩) ?_
  · rw [List.mem_singleton.mp hb]
    show s₁.heap.objs.size < (s₁.heap.push _).objs.size
    rw [Heap.size_push]; exact Nat.lt_succ_self _
  · intro D C h tk m' ys news' F' N' o1 hn hC₀ hD₀ hCL hDL hCD offC fin
    refine ⟨m', hn, fun h'' hs'' => fin D h'' tk (F'.change hs'' hCL hC₀) (fun p hp => ?_) o1⟩
    refine ⟨hs''.extBut _ _ ?_ (N' p hp).1, (N' p hp).2⟩
    rcases List.mem_cons.mp hp with rfl | hp
    · exact Ne.symm hCD
    · exact offC p hp
noncomputable def SrcXT (prog : Program) (w : World) (A : Around) (h₀ : Heap) (L : Addr) (m : PySem.Str → Option Value) (env : Env) (ct elt : PySem.Expr) (x : PySem.Str) (scope : Scope) (cl : List (PySem.Str × Addr)) (Fin : Shared → List Value → List (Addr × Obj) → Prop) (xv : Value) (s₁ : Shared) : Prop :=
  ∃ z t news, xv = .str z t ∧ A.handled = none ∧ Fr h₀ L s₁.heap m ∧ News h₀ L s₁.heap news ∧ z.cps.size ≤ sizeLine ∧
    ∀ s₂ : Shared, (∃ h, s₂ = { s₁ with heap := h }) → CompRestT prog w A h₀ L m env ct elt x scope cl s₂ (fun _ => True) (SignAt z) (Fin s₂) z.cps.size 0 [] news
theorem ListComp_XT {ct elt iter : PySem.Expr} {x : PySem.Str} {px : Pos} {scope : Scope} {cl : List (PySem.Str × Addr)} {pos : Pos} {Q : Value → Shared → Prop} (_F₀ : Fr h₀ L s.heap m)
    (hclos : closureFor scope env = pure cl) (hcell : ∀ y ∈ scope.names, y.2 ≠ .cell) (hkind : scope.kind = .function)
    (hnames : ∀ y ∈ scope.names, y.2 = .local → scope.names.lookup y.1 = some .local) (hx : scope.names.lookup x = some .local)
    (h : wpAny (model prog w) A (eval iter env) (SrcXT prog w A h₀ L m env ct elt x scope cl (fun s₂ => FinE h₀ L m s₂ Q)) E s)
    (hs : ∀ x, foldedSetIterable iter env x = pure x) :
    wpAny (model prog w) A (eval (.ListComp elt [⟨.Name x px, iter, [ct], 0⟩] scope pos) env) Q E s := by
  rw [eval_ListComp]
  refine wpAny_comprehension_free (use := none) rfl hs hclos hkind hnames (wpAny_mono h (fun xv s₁ h₁ => ?_) fun _ _ e => e)
  rcases h₁ with ⟨z, t, news, rfl, hh, F, N, hsz, R⟩
  refine pyIter_txt hh fun cls o W st => ?_
  have up : ∀ b o', s₁.heap.get? b = some o' → (s₁.heap.push o).get? b = some o' := fun b o' e => Heap.get?_push_of_some _ e
  refine block_T (s₂ := { s₁ with heap := s₁.heap.push o }) W hsz (fun i h st => by obtain ⟨o, e, _⟩ := st; exact ⟨o, e⟩) txt_st hcell hkind hx st (fun b hb => ?_)
    (F.keeps up) (N.grown up) (Nat.ne_of_lt F.ns.lt) (next_is_new F) (fun p hp => Nat.ne_of_lt (Heap.lt_size (N p hp).1)) trivial (R _ ⟨_, rfl⟩) ?_
  · rw [List.mem_singleton.mp hb]
    show s₁.heap.objs.size < (s₁.heap.push _).objs.size
    rw [Heap.size_push]; exact Nat.lt_succ_self _
  · intro D C h tk m' ys news' F' N' o1 hn hC₀ hD₀ hCL hDL hCD offC fin
    refine ⟨m', hn, fun h'' hs'' => fin D h'' tk (F'.change hs'' hCL hC₀) (fun p hp => ?_) o1⟩
    refine ⟨hs''.extBut _ _ ?_ (N' p hp).1, (N' p hp).2⟩
    rcases List.mem_cons.mp hp with rfl | hp
    · exact Ne.symm hCD
    · exact offC p hp

/-- the values of a comprehension over a text, by a relation of sign and value -/
inductive Rels (R : Nat → Value → Prop) : List Nat → List Value → Prop
  | nil : Rels R [] []
  | cons {c : Nat} {v : Value} {cs : List Nat} {vs : List Value} : R c v → Rels R cs vs → Rels R (c :: cs) (v :: vs)
theorem Rels.snoc {R : Nat → Value → Prop} {c : Nat} {v : Value} (h : R c v) : ∀ {cs : List Nat} {vs : List Value}, Rels R cs vs → Rels R (cs ++ [c]) (vs ++ [v])
  | _, _, .nil => .cons h .nil
  | _, _, .cons a r => .cons a (r.snoc h)
noncomputable def TxEl (news : List (Addr × Obj)) (R : Value → Prop) (y : Value) (news' : List (Addr × Obj)) : Prop := (∀ p ∈ news, p ∈ news') ∧ R y
theorem tx_rest {z : PySem.Str} {elt : PySem.Expr} {x : PySem.Str} {scope : Scope} {cl : List (PySem.Str × Addr)} {Fin : List Value → List (Addr × Obj) → Prop} {news : List (Addr × Obj)} (R : Nat → Value → Prop)
    (turn : ∀ c t I oI C oC D m₂ ys h tk news (E' : Value → Shared → Prop), c ∈ z.cps.toList → NsObj oC m₂ → m₂ x = some (.str ⟨#[c]⟩ t) → Fr h₀ L h m → News h₀ L h ((I, oI) :: (C, oC) :: (D, lst ys) :: news) → Off3 I C D news → ((@Ne Nat I C) ∧ (@Ne Nat I D) ∧ (@Ne Nat C D)) →
      wpAny (model prog w) A (eval elt (compEnvC scope cl C env)) (CompEnd h₀ L m { s with heap := h, toks := tk } I oI C oC D (lst ys) (fun _ => True) (TxEl news (R c))) E' { s with heap := h, toks := tk })
    (fin : ∀ ys news', Rels R z.cps.toList ys → (∀ p ∈ news, p ∈ news') → Fin ys news') : CompRest prog w A h₀ L m env elt x scope cl s (fun _ => True) (SignAt z) Fin z.cps.size 0 [] news := by
  have key : ∀ (j i : Nat) (ys : List Value) (nw : List (Addr × Obj)), i + j = z.cps.size → Rels R (z.cps.toList.take i) ys → (∀ p ∈ news, p ∈ nw) → CompRest prog w A h₀ L m env elt x scope cl s (fun _ => True) (SignAt z) Fin j i ys nw := by
    intro j
    induction j with
    | zero =>
      intro i ys nw hi hy hn
      have e : i = z.cps.toList.length := by simpa using hi
      subst e
      rw [List.take_length] at hy
      exact CompRest.zero (fin ys nw hy hn)
    | succ j ih =>
      intro i ys nw hi hy hn
      refine CompRest.succ ?_
      intro v I oI C oC D m₂ h tk E' hv hC hx F N off ne
      obtain ⟨c, t, hc, hv'⟩ := hv
      rw [hv'] at hx
      have hc' : z.cps.toList[i]? = some c := by simpa using hc
      refine wpAny_mono (turn c t I oI C oC D m₂ ys h tk nw E' (List.mem_of_getElem? hc') hC hx F N off ne) (fun y s₂ hq => ?_) fun _ _ e => e
      obtain ⟨h', tk', nw', e, F', N', off', hS, hsub, hr⟩ := hq
      refine ⟨h', tk', nw', e, F', N', off', hS, ?_⟩
      refine ih (i + 1) _ nw' (by omega) ?_ fun p hp => hsub p (hn p hp)
      rw [List.take_add_one, hc']
      exact Rels.snoc hr hy
  exact key z.cps.size 0 [] news (by omega) (by simp only [List.take_zero]; exact .nil) fun _ hp => hp
end
end Mine
end
section
open PySem PySem.W PyProof.Rows PySem.Spec PySem.Calls Lean Meta Elab Tactic
set_option Elab.async false
set_option maxRecDepth 100000
set_option maxHeartbeats 2000000
namespace Mine
open PyProof.Rows.LCg PyProof.Rows.LCt
theorem getD_in {P : Int → Prop} (l : List Int) (h : ∀ a ∈ l, P a) (h0 : P 0) (n : Nat) : P (l.getD n 0) := by
  rw [List.getD_eq_getElem?_getD]
  cases e : l[n]? with
  | none => exact h0
  | some v => exact h v (List.mem_of_getElem? e)
theorem getD_inS {P : PySem.Str → Prop} (l : List PySem.Str) (h : ∀ a ∈ l, P a) (h0 : P PySem.Str.empty) (n : Nat) : P (l.getD n PySem.Str.empty) := by
  rw [List.getD_eq_getElem?_getD]
  cases e : l[n]? with
  | none => exact h0
  | some v => exact h v (List.mem_of_getElem? e)
theorem fin_E {h₀ : Heap} {L : Addr} {m : PySem.Str → Option Value} {s : Shared} {Q : Value → Shared → Prop} {ys : List Value} {news news' : List (Addr × Obj)} (hsub : ∀ p ∈ news, p ∈ news')
    (h : ∀ D h tk, Fr h₀ L h m → News h₀ L h ((D, lst ys) :: news) → Q (.ref D) { s with heap := h, toks := tk }) : FinE h₀ L m s Q ys news' := by
  intro D h' tk F N _
  refine h D h' tk F fun p hp => ?_
  rcases List.mem_cons.mp hp with rfl | hp
  · exact N _ (.head _)
  · exact N p (.tail _ (hsub p hp))
theorem news_isL {h₀ h : Heap} {L D : Addr} {news : List (Addr × Obj)} {ys : List Value} (N : News h₀ L h news) (hm : (D, lst ys) ∈ news) : h.IsList D ys.toArray := ⟨_, (N _ hm).1, rfl, _, rfl⟩
theorem sz_app {a b : PySem.Str} {m n : Nat} (ha : a.length ≤ m) (hb : b.length ≤ n) : (a ++ b).length ≤ m + n := by
  show (a.cps ++ b.cps).size ≤ m + n
  rw [Array.size_append]
  exact Nat.add_le_add ha hb
theorem sz_slice {a : PySem.Str} {i j : Option Int} {m : Nat} (ha : a.length ≤ m) : (Txt.slice a i j).length ≤ m := Nat.le_trans (PyProof.Txt.length_slice_le a _ _) ha
theorem sz_one (c : Nat) : (⟨#[c]⟩ : PySem.Str).length ≤ 1 := Nat.le_refl _
theorem sz_mul {a : PySem.Str} {n : Int} (ha : a.length = 1) (hn : n ≤ 2) : (Txt.mul a n).length ≤ 2 := by
  unfold Txt.mul
  by_cases h : n < 1
  · rw [if_pos h]; decide
  · rw [if_neg h]
    by_cases h1 : n = 1
    · subst h1; rw [if_pos (by rfl)]; omega
    · have : n = 2 := by omega
      subst this
      rw [ha]
      show ((#[] ++ a.cps) ++ a.cps).size ≤ 2
      have : a.cps.size = 1 := ha
      simp [this]
theorem sz_menu {l : List PySem.Str} {n k : Nat} (h : ∀ a ∈ l, a.length ≤ k) : (l.getD n PySem.Str.empty).length ≤ k := getD_inS (P := fun a => a.length ≤ k) l h (Nat.zero_le _) n
theorem len_lt : (PySem.Str.ofString "<").length = 1 := by decide +kernel
theorem len_gt : (PySem.Str.ofString ">").length = 1 := by decide +kernel
theorem sz_six {a b c d e f : PySem.Str} {n k : Nat} (h1 : a.length ≤ k) (h2 : b.length ≤ k) (h3 : c.length ≤ k) (h4 : d.length ≤ k) (h5 : e.length ≤ k) (h6 : f.length ≤ k) : ([a, b, c, d, e, f].getD n PySem.Str.empty).length ≤ k :=
  sz_menu fun x hx => by
    simp only [List.mem_cons, List.not_mem_nil, or_false] at hx
    rcases hx with rfl | rfl | rfl | rfl | rfl | rfl <;> assumption
theorem le_via {a k s : Nat} (h : a ≤ k) (hs : k ≤ s) : a ≤ s := Nat.le_trans h hs
theorem add_via {a b k l s : Nat} (h : a ≤ k) (h' : b ≤ l) (hs : k + l ≤ s) : a + b ≤ s := Nat.le_trans (Nat.add_le_add h h') hs
noncomputable abbrev firstN (x : Int) : Int := x.fmod 5 - 2
noncomputable abbrev secondN (x : Int) : Int := (x.fdiv 5).fmod 5 - 2
noncomputable abbrev kindN (x : Int) : Int := (x.fdiv 25).fmod 6
noncomputable abbrev pickN (x : Int) : Int := (x.fdiv 150).fmod 12
inductive TupOut4 (a : PySem.Str) (b c d : Int) (news : List (Addr × Obj)) : List (Addr × Obj) → Value → Prop
  | mk (D : Addr) (t1 t2 t3 t4 : Tok) : TupOut4 a b c d news [(D, tupO #[.str a t1, .int b t2, .int c t3, .int d t4])] (.ref D)
theorem mul_small {x : PySem.Str} {n : Int} (hx : x.length = 1) (h0 : -2 ≤ n) (h1 : n ≤ 2) : MulOk x n := mulOk_of 1 2 (by omega) (by omega) (by omega) (by decide) (by decide)
noncomputable def signL : List Int := [65, 122, 223, 383, 8481, 64257, 64259, 64262, 119808, 120763, 13169, 8470]
noncomputable def unseenL : List Int := [173, 847, 8203, 8288, 65024, 65279]
noncomputable def heardL : List PySem.Str := [PySem.Str.ofString "a", PySem.Str.ofString "z", PySem.Str.ofString "ss", PySem.Str.ofString "s", PySem.Str.ofString "tel", PySem.Str.ofString "fi", PySem.Str.ofString "ffi", PySem.Str.ofString "st", PySem.Str.ofString "a", PySem.Str.ofString "σ", PySem.Str.ofString "hpa", PySem.Str.ofString "no"]
noncomputable def letS (x : Int) : PySem.Str := ⟨#[(signL.getD (pickN x).toNat 0).toNat]⟩
noncomputable def hidS (x : Int) : PySem.Str := ⟨#[(unseenL.getD ((pickN x).fmod 6).toNat 0).toNat]⟩
noncomputable def heardS (x : Int) : PySem.Str := heardL.getD (pickN x).toNat PySem.Str.empty
noncomputable def runS (n : Int) : PySem.Str := Txt.mul (PySem.Str.ofString "<") n ++ Txt.mul (PySem.Str.ofString ">") (-n)
noncomputable def dressS (x : Int) : PySem.Str :=
  [hidS x, letS x, PySem.Str.ofString "\\" ++ hidS x ++ letS x, PySem.Str.ofString "\\" ++ hidS x ++ PySem.Str.ofString "/",
   PySem.Str.ofString "\"" ++ letS x ++ PySem.Str.ofString "'" ++ hidS x ++ PySem.Str.ofString "\"", PySem.Str.ofString "\"\\\"" ++ letS x ++ PySem.Str.ofString "<\""].getD (kindN x).toNat PySem.Str.empty
noncomputable def textN (x : Int) : PySem.Str :=
  Txt.slice (runS (firstN x)) none (some 1) ++ dressS x ++ Txt.slice (runS (firstN x)) (some 1) none ++ PySem.Str.ofString "/" ++ Txt.mul (PySem.Str.ofString "<") (secondN x) ++ Txt.mul (PySem.Str.ofString ">") (-(secondN x))
noncomputable def sumS (x : PySem.Str) : Int := (x.cps.toList.map Int.ofNat).sum
noncomputable def gainN (x : Int) : Int := if kindN x = 1 then sumS (heardS x) else if kindN x = 2 then sumS (Txt.slice (heardS x) (some 1) none) else 0
theorem gain1 {x : Int} (h : kindN x = 1) : gainN x = sumS (heardS x) := if_pos h
theorem gain2 {x : Int} (h : kindN x = 2) : gainN x = sumS (Txt.slice (heardS x) (some 1) none) := by
  unfold gainN; rw [if_neg (by omega), if_pos h]
theorem gain0 {x : Int} (h1 : ¬ kindN x = 1) (h2 : ¬ kindN x = 2) : gainN x = 0 := by
  unfold gainN; rw [if_neg h1, if_neg h2]
theorem rowW60 : True := by
  k_with_none
  trivial
theorem rowW61 : True := by
  k_with "own len" => first | (with_reducible exact sz_one _) | ((with_reducible refine sz_mul ?_ ?_); (focus (first | exact len_lt | exact len_gt)); (focus omega)) | ((with_reducible apply sz_slice); (k_extra "own len")) | ((with_reducible apply sz_app); (focus (k_extra "own len")); (focus (k_extra "own len"))) | ((with_reducible refine sz_menu (k := 3) ?_); decide +kernel) | ((with_reducible refine sz_six (k := 8) ?_ ?_ ?_ ?_ ?_ ?_) <;> (apply le_via; (focus (k_extra "own len")); (focus (decide +kernel)))) | exact Nat.le_refl _
  trivial
theorem rowW62 : True := by
  k_with "own size" => apply le_via; (focus (k_extra "own len")); (focus (decide +kernel))
  trivial
theorem rowW63 : True := by
  k_with "own add" => apply add_via; (focus (k_extra "own len")); (focus (k_extra "own len")); (focus (decide +kernel))
  trivial
/-- a name's list, read at a place that is no literal; slices of texts; two lists in one; a sum of ord -/
noncomputable abbrev ordSc : Scope := { kind := .function, names := [(PySem.Str.ofString ".0", .local), (PySem.Str.ofString "one", .local), (PySem.Str.ofString "ord", .globalImplicit)], isGenerator := false, isCoroutine := false }
noncomputable def notSl : PySem.Expr → Bool := fun e => !(e.ctorIdx == 26)
inductive XeN (ev : PySem.Expr → (SV → Prop) → Prop) (K : SV → Prop) : PySem.Expr → Prop
  | sn {v lo p q} : ev v (fun a => ev lo fun i => ∃ x j, a = .str x ∧ i = .int j ∧ x.length ≤ sizeLine ∧ K (.str (Txt.slice x (some j) none))) → XeN ev K (.Subscript v (.Slice (some lo) none none p) q)
  | ns {v hi p q} : ev v (fun a => ev hi fun i => ∃ x j, a = .str x ∧ i = .int j ∧ x.length ≤ sizeLine ∧ K (.str (Txt.slice x none (some j)))) → XeN ev K (.Subscript v (.Slice none (some hi) none p) q)
  | idx {x px s q} (l : List SV) (f : Nat → SV) : (∀ k, k < l.length → l[k]? = some (f k)) → l.length ≤ 50 → notSl s = true → ev (.Name x px) (fun a => ev s fun i => ∃ j, a = .lst l ∧ i = .int j ∧ (0 ≤ j ∧ j < (l.length : Int)) ∧ K (f j.toNat)) → XeN ev K (.Subscript (.Name x px) s q)
  | cat {x px es lp q} : ev (.Name x px) (fun a => ev (.List es lp) fun b => ∃ l m, a = .lst l ∧ b = .lst m ∧ l.length + m.length ≤ 50 ∧ K (.lst (l ++ m))) → XeN ev K (.BinOp (.Name x px) .Add (.List es lp) q)
  | sum {p1 p2 p3 p4 p5 p6 p7 p8 v z} : ev (.Subscript v z p8) (fun a => ∃ x, a = .str x ∧ x.length ≤ sizeLine ∧ K (.int (sumS x))) →
      XeN ev K (.Call (.Name "sum" p1) [.ListComp (.Call (.Name "ord" p2) [.Name "one" p3] [] p4) [⟨.Name "one" p5, .Subscript v z p8, [], 0⟩] ordSc p6] [] p7)
noncomputable def xoN (e : PySem.Expr) : Bool := e.ctorIdx == 21 || ((e.pos.line == 181 && (e.pos.col == 14 && e.pos.endCol == 83)) || ((e.pos.line == 184 && (e.pos.col == 15 && e.pos.endCol == 53)) || (e.pos.line == 186 && (e.pos.col == 15 && e.pos.endCol == 57))))
theorem xsN : ∀ ev e K, xoN e = true → XeN ev K e → (∀ a b c p, e ≠ .Slice a b c p) ∧ ∀ t k env, swapsWith e t k env = pure false := by
  intro ev e K _ h
  cases h <;> exact ⟨fun _ _ _ _ h => (nomatch h), fun _ _ _ => rfl⟩
noncomputable def usN (f : Value) (l : List SV) (K : SV → Prop) : Prop := match f, l with
  | .builtin b, [.int n] => b = "chr" ∧ (0 ≤ n ∧ n ≤ 1114111) ∧ K (.str ⟨#[n.toNat]⟩)
  | _, _ => False
theorem bt_ord : bootBuiltins (PySem.Str.ofString "ord") = some (.builtin "ord") := by boot_fast
noncomputable abbrev XeN' (ev : PySem.Expr → (SV → Prop) → Prop) (e : PySem.Expr) (K : SV → Prop) : Prop := XeN ev K e
theorem Reps.app {N : Led} : ∀ {l vs l2 vs2}, Reps N l vs → Reps N l2 vs2 → Reps N (l ++ l2) (vs ++ vs2)
  | _, _, _, _, .nil, h => h
  | _, _, _, _, .cons a r, h => .cons a (r.app h)
theorem notSl_ne {s : PySem.Expr} (h : notSl s = true) : ∀ a b c p, s ≠ .Slice a b c p := by
  rintro a b c p rfl; cases h
theorem base_str {v : PySem.Expr} {x : PySem.Str} {t : Tok} {r : Value} : letTemporaryGo v (.str x t) r = pure () := by cases v <;> rfl
section
variable {w : World} {mean : ExcName → Option Value} {mg mb : PySem.Str → Option Value} {dp un : Nat} {gd : Option (List Code)} {cn : PySem.Str} {cs : Scope} {a : Addr} {ccd : Value} {cl : List (PySem.Str × Addr)} {outer : List Env} {A₀ : Around} {base h₀ : Heap} {L : Addr} {W : Led} {m : PySem.Str → Option Value} {F : Led} {O : Own} {s : Shared} {E : Value → Shared → Prop} {P : Par} {ow : Ow} {σ : Vs}
theorem rels_reps {N : Led} : ∀ {cs : List Nat} {vs : List Value}, Rels (fun c v => ∃ t, v = .int c t) cs vs → IntsAre vs (cs.map Int.ofNat)
  | _, _, .nil => .nil
  | _, _, .cons ⟨t, e⟩ r => by subst e; exact .cons _ _ (rels_reps (N := N) r)
structure OrdEnv (env : Env) : Prop where
  k : ∀ C, (compEnvC ordSc [] C env).scope.kind = .function
  o : ∀ C, (compEnvC ordSc [] C env).kindOf "ord" = some .globalImplicit
  e : ∀ C, (compEnvC ordSc [] C env).kindOf "one" = some .local
theorem ord_comp (oe : OrdEnv (envX cn cs L a ccd cl)) (X : (KF w.params).In h₀) (T : Top QV LO mean mg mb h₀) (fr : Fr h₀ L s.heap m) {p2 p3 p4 p5 p6 p8 : Pos} {y z : PySem.Expr} {Q : Value → Shared → Prop}
    (h : wpAny (model PySem.Challenge.rw_wf0099_01.prog w) (ktrTop dp un gd cn cs L a ccd cl outer) (eval (.Subscript y z p8) (envX cn cs L a ccd cl)) (fun v s₁ => ∃ z t news, v = .str z t ∧ Fr h₀ L s₁.heap m ∧ News h₀ L s₁.heap news ∧ z.length ≤ sizeLine ∧
      ∀ D h' tk news' ys, Fr h₀ L h' m → News h₀ L h' ((D, LCg.lst ys) :: news') → (∀ p ∈ news, p ∈ news') → IntsAre ys (z.cps.toList.map Int.ofNat) → Q (.ref D) { s₁ with heap := h', toks := tk }) E s) :
    wpAny (model PySem.Challenge.rw_wf0099_01.prog w) (ktrTop dp un gd cn cs L a ccd cl outer) (eval (.ListComp (.Call (.Name "ord" p2) [.Name "one" p3] [] p4) [⟨.Name "one" p5, .Subscript y z p8, [], 0⟩] ordSc p6) (envX cn cs L a ccd cl)) Q E s := by
  refine ListComp_X fr (cl := []) rfl (by decide) rfl (by decide) (by decide) (wpAny_mono h (fun v s₁ hq => ?_) fun _ _ e => e) (fun _ => rfl)
  obtain ⟨z, t, news, rfl, F1, N1, hz, k⟩ := hq
  refine ⟨z, t, news, rfl, rfl, F1, N1, hz, ?_⟩
  rintro _ ⟨h2, rfl⟩
  refine tx_rest (fun c v => ∃ t, v = .int (c : Int) t) ?_ ?_
  · intro c t I oI C oC D m₂ ys h tk nw E' _ hC hx F' N' off ne
    (with_reducible refine Call_name ?_)
    (with_reducible refine LCgL.ld_built (v := .builtin "ord") F' X T ?_ ?_ ?_ ?_ (by rfl) (by rfl) (oe.k _) (oe.o _) (by decide))
    · kernel_rfl
    · exact bt_ord
    · decide
    (with_reducible refine PyProof.Rows.callWith_builtin1 ?_ (star_cons rfl) (star_any rfl))
    (with_reducible refine args_cons ?_ (star_cons rfl))
    (with_reducible refine LCgL.ld_own N' (List.Mem.tail _ (List.Mem.head _)) hC hx ?_ (oe.k _) (oe.e _) (by decide))
    (with_reducible refine args_nil ?_)
    (with_reducible refine PySem.P.ord_of_char ?_)
    exact LCg.CompEnd.intro F' N' nw (fun _ hp => hp) off trivial ⟨fun _ hp => hp, _, rfl⟩
  · intro ys nw hr hs D h tk F' N' _
    exact k D h tk nw ys F' N' hs (rels_reps (N := []) hr)
/-- parN's own readings are sound -/
noncomputable def parN (env : Env) : Par := ⟨kdOf env, glF, usN, noCv, noCm, false, xoN, XeN' , xsN⟩
theorem sym_item {value slice : PySem.Expr} {D : Addr} {vs : List Value} {l : List SV} {n : Nat} {j : Int} {iv : Value} {f : Nat → SV} {K : SV → Prop} {Q : Value → Shared → Prop} {G : Led} (N : News h₀ L s.heap G) (hm : (D, PySem.W.listOf vs.toArray n) ∈ G) (rl : Reps F l vs) (ri : Rep F (.int j) iv)
    (hf : ∀ k, k < l.length → l[k]? = some (f k)) (hl : l.length ≤ 50) (h0 : 0 ≤ j) (h1 : j < (l.length : Int)) (hs : ∀ a b c p, slice ≠ .Slice a b c p) (hp : TP P s.toks) (H : HS h₀ L W s.heap m F O) (hK : K (f j.toNat)) (k : KE P h₀ L W m F O s K Q) {A : Around} : wpAny (model PySem.Challenge.rw_wf0099_01.prog w) A (subscriptTail value slice (.ref D) iv) Q E s := by
  obtain ⟨i, rfl⟩ := Int.eq_ofNat_of_zero_le h0
  have hi : i < l.length := by omega
  obtain ⟨v, g1, g2⟩ := rl.get _ (hf i hi)
  cases ri
  (with_reducible refine led_item (.inl rfl) N hm (Nat.lt_of_lt_of_le hi (Nat.le_trans hl (by decide))) g1 ?_ hs)
  exact k.now (tk := s.toks) hp H hK g2
theorem parN_ok (oe : OrdEnv (envX cn cs L a ccd cl)) (hk : cs.kind = .function) (X : (KF w.params).In h₀) (T : Top QV LO mean mg mb h₀) (ks : ((envX cn cs L a ccd cl)).kindOf "sum" = some .globalImplicit) : ParOK (parN (envX cn cs L a ccd cl)) w (ktrTop dp un gd cn cs L a ccd cl outer) (envX cn cs L a ccd cl) h₀ L W := by
  have hA : Around.handled (ktrTop dp un gd cn cs L a ccd cl outer) = none := rfl
  have tp : ∀ n, TP (parN (envX cn cs L a ccd cl)) n := fun n e => (nomatch e)
  refine ⟨kdOf_ok, glF_ok w, fun _ _ h => (nomatch h), fun _ _ _ _ _ _ _ _ _ _ _ _ _ h => (False.elim h), ?us, ?xe⟩
  case us =>
    intro W f l K vs m F O s Q E hK hp H r k
    replace hK : usN f l K := hK
    unfold usN at hK
    split at hK
    · obtain ⟨rfl, ⟨h1, h2⟩, hK⟩ := hK
      rcases r with _ | ⟨r1, r2⟩
      cases r1; cases r2
      (with_reducible refine chr_of_range h1 h2 ?_)
      exact k.now (tp _) H hK (.str _ _)
    · exact hK.elim
  case xe =>
    intro W ev e K m F O ow σ s Q E _ hev hK hp H hV hO k
    cases hK with
    | sn hK =>
      (with_reducible refine Subscript_ ?_)
      refine hev _ _ F s _ E hK (tp _) H hV hO ?_
      intro a1 h' tk tl sv hp' H' ap hK' rv
      (with_reducible refine wpAny_Slice ?_)
      (with_reducible refine evalPart_some_step ?_)
      refine hev _ _ _ _ _ E hK' (tp _) H' (hV.mono sub_app) (hO.mono sub_app) ?_
      rintro a2 h2 tk2 tl2 sv2 hp2 H2 ap2 ⟨x, j, rfl, rfl, hx, hK2⟩ rv2
      cases rv; cases rv2
      (with_reducible refine evalPart_none_step ?_)
      (with_reducible refine evalPart_none_step ?_)
      (with_reducible refine slice_strN_sn (s := ⟨_, _, _, _, _⟩) H2.fr H2.nw ?_ (by with_unfolding_all rfl) (fun _ => base_str) hx)
      intro h3 t3 k3 F3 N3
      exact ((k.step ap).step ap2).now (tp _) (H2.same F3 N3) hK2 (.str _ _)
    | ns hK =>
      (with_reducible refine Subscript_ ?_)
      refine hev _ _ F s _ E hK (tp _) H hV hO ?_
      intro a1 h' tk tl sv hp' H' ap hK' rv
      (with_reducible refine wpAny_Slice ?_)
      (with_reducible refine evalPart_none_step ?_)
      (with_reducible refine evalPart_some_step ?_)
      refine hev _ _ _ _ _ E hK' (tp _) H' (hV.mono sub_app) (hO.mono sub_app) ?_
      rintro a2 h2 tk2 tl2 sv2 hp2 H2 ap2 ⟨x, j, rfl, rfl, hx, hK2⟩ rv2
      cases rv; cases rv2
      (with_reducible refine evalPart_none_step ?_)
      (with_reducible refine slice_strN_ns (s := ⟨_, _, _, _, _⟩) H2.fr H2.nw ?_ (by with_unfolding_all rfl) (fun _ => base_str) hx)
      intro h3 t3 k3 F3 N3
      exact ((k.step ap).step ap2).now (tp _) (H2.same F3 N3) hK2 (.str _ _)
    | idx l f hf hl hn hK =>
      (with_reducible refine Subscript_ ?_)
      refine hev _ _ F s _ E hK (tp _) H hV hO ?_
      intro a1 h' tk tl sv hp' H' ap hK' rv
      refine hev _ _ _ _ _ E hK' (tp _) H' (hV.mono sub_app) (hO.mono sub_app) ?_
      rintro a2 h2 tk2 tl2 sv2 hp2 H2 ap2 ⟨j, rfl, rfl, ⟨h0, h1⟩, hK2⟩ rv2
      cases rv
      case lst D vs c hm hr =>
        exact sym_item H2.news (sub_app _ hm) (hr.mono sub_app) rv2 hf hl h0 h1 (notSl_ne hn) (tp _) H2 hK2 ((k.step ap).step ap2)
    | cat hK =>
      (with_reducible refine wpAny_BinOp ?_)
      refine hev _ _ F s _ E hK (tp _) H hV hO ?_
      intro a1 h' tk tl sv hp' H' ap hK' rv
      refine hev _ _ _ _ _ E hK' (tp _) H' (hV.mono sub_app) (hO.mono sub_app) ?_
      rintro a2 h2 tk2 tl2 sv2 hp2 H2 ap2 ⟨l, l2, rfl, rfl, hl, hK2⟩ rv2
      cases rv
      case lst D vs c hm hr =>
        cases rv2
        case lst D2 vs2 c2 hm2 hr2 =>
          have hr := hr.mono (N' := tl2 ++ (tl ++ F)) sub_app
          (with_reducible refine kmk_add_lit H2.fr H2.nw (its := vs.toArray) (its2 := vs2.toArray) (zs := vs ++ vs2) ?_ ?_ rfl ?_ ?_)
          · exact ⟨_, (H2.news _ (sub_app _ hm)).1, rfl, _, rfl⟩
          · exact ⟨_, (H2.news _ hm2).1, rfl, _, rfl⟩
          · intro D3 h3 F3 N3 hl3
            have H3 := H2.alloc F3 N3 (fun p hp => Nat.ne_of_lt (hl3 p hp))
            refine ((k.step ap).step ap2) (.ref D3) h3 tk2 [(D3, PySem.W.listOf (vs ++ vs2).toArray 0)] (.lst (l ++ l2)) (tp _) H3 (fun q hq p hp => ?_) hK2 (.lst D3 _ _ 0 (.head _) ?_)
            · cases hp with
              | head => exact Nat.ne_of_lt (hl3 q (by simp [hq]))
              | tail _ h => cases h
            · exact Reps.app (hr.mono fun p hp => .tail _ hp) (hr2.mono fun p hp => .tail _ hp)
          · have := hr.length; have := hr2.length
            rw [sizeLine_eq]
            show vs.length + vs2.length ≤ _
            omega
    | sum hK =>
      (with_reducible refine Call_name ?_)
      (with_reducible refine nameX_B H.fr X (topRead_of T) ?_ bt_sum (by decide) ?_ hk ks (by decide))
      · kernel_rfl
      (with_reducible refine PyProof.Rows.callWith_builtin1 ?_ (star_cons rfl) (star_any rfl))
      (with_reducible refine args_cons ?_ (star_cons rfl))
      refine ord_comp oe X T H.fr ?_
      refine hev _ _ F s _ E hK (tp _) H hV hO ?_
      rintro a1 h' tk tl sv hp' H' ap ⟨x, rfl, hx, hK'⟩ rv
      cases rv
      refine ⟨x, _, _, rfl, H'.fr, H'.nw, hx, ?_⟩
      intro D h2 tk2 nw ys F2 N2 hs hys
      (with_reducible refine args_nil ?_)
      refine LSm.sum_ints F2 N2 hA ⟨_, (N2 _ (.head _)).1, rfl, _, rfl⟩ hys ?_
      intro h3 tk3 t3 F3 N3
      exact (k.step ap).now (tp _) (H'.same F3 fun p hp => N3 p (.tail _ (hs p hp))) hK' (.int _ _)
theorem body_soundN (oe : OrdEnv (envX cn cs L a ccd cl)) (hk : cs.kind = .function) (X : (KF w.params).In h₀) (T : Top QV LO mean mg mb h₀) (ks : ((envX cn cs L a ccd cl)).kindOf "sum" = some .globalImplicit) (hE : PassesOwn (model PySem.Challenge.rw_wf0099_01.prog w) (ktrTop dp un gd cn cs L a ccd cl outer) (envX cn cs L a ccd cl) E) {body : List Stmt} {K : SV → Prop} {Q : Flow → Shared → Prop} {x : PySem.Str} {v : Value} {sv : SV}
    (hK : gS (parN (envX cn cs L a ccd cl)) 60 body [] [(x, sv)] fun r _ _ => (match r with | some v => K v | none => False)) (Fr0 : Fr h₀ L s.heap m) (NW : News h₀ L s.heap W) (kx : kdOf (envX cn cs L a ccd cl) x = some .local) (hm : m x = some v) (r : Rep [] sv v)
    (k : ∀ v sv h' tk m' tl l2, Fr h₀ L h' m' → News h₀ L h' l2 → (∀ p ∈ tl ++ W, p ∈ l2) → Aprt W tl → K sv → Rep (tl ++ []) sv v → Q (.ret v) { s with heap := h', toks := tk }) : wpAny (model PySem.Challenge.rw_wf0099_01.prog w) (ktrTop dp un gd cn cs L a ccd cl outer) (execs body (envX cn cs L a ccd cl)) Q E s :=
  body_sound (W := W) (F := []) (parN_ok oe hk X T ks) hk X T hE hK (fun h => nomatch h) Fr0 (fun p hp => nomatch hp) NW (vars_cons kx hm r vars_nil) k
end
theorem at_int {ns : List Int} : ∀ k, k < (ns.map SV.int).length → (ns.map SV.int)[k]? = some (SV.int (ns.getD k 0)) := fun k h => by
  rw [List.length_map] at h
  rw [List.getElem?_map, List.getElem?_eq_getElem h, List.getD_eq_getElem?_getD, List.getElem?_eq_getElem h]; rfl
theorem at_str {ns : List PySem.Str} : ∀ k, k < (ns.map SV.str).length → (ns.map SV.str)[k]? = some (SV.str (ns.getD k PySem.Str.empty)) := fun k h => by
  rw [List.length_map] at h
  rw [List.getElem?_map, List.getElem?_eq_getElem h, List.getD_eq_getElem?_getD, List.getElem?_eq_getElem h]; rfl
theorem noPy {x y : Int} (h : y.natAbs.log2 < 9000) : Builtin.divisionGoesByPylong x y = false := PyProof.noPylong_of_log2 h
theorem menu_ok {l : List Int} (hl : (l.all fun a => decide (0 ≤ a) && decide (a ≤ 1114111)) = true) (n : Nat) : 0 ≤ l.getD n 0 ∧ l.getD n 0 ≤ 1114111 :=
  getD_in (P := fun a => 0 ≤ a ∧ a ≤ 1114111) l (fun a ha => by
    have := List.all_eq_true.mp hl a ha
    simpa using this) (by decide) n
theorem eq_t {a b : Int} (h : (a == b) = true) : a = b := eq_of_beq h
theorem eq_f {a b : Int} (h : (a == b) = false) : ¬ a = b := fun e => by subst e; rw [beq_self_eq_true] at h; cases h
noncomputable abbrev dressL (x : Int) : List PySem.Str := [hidS x, letS x, PySem.Str.ofString "\\" ++ hidS x ++ letS x, PySem.Str.ofString "\\" ++ hidS x ++ PySem.Str.ofString "/",
   PySem.Str.ofString "\"" ++ letS x ++ PySem.Str.ofString "'" ++ hidS x ++ PySem.Str.ofString "\"", PySem.Str.ofString "\"\\\"" ++ letS x ++ PySem.Str.ofString "<\""]
theorem hid_len (x : Int) : (hidS x).length ≤ 1 := sz_one _
theorem let_len (x : Int) : (letS x).length ≤ 1 := sz_one _
theorem dress_len (x : Int) (n : Nat) : ((dressL x).getD n PySem.Str.empty).length ≤ 8 :=
  sz_six (le_via (hid_len x) (by decide)) (le_via (let_len x) (by decide)) (le_via (sz_app (sz_app (Nat.le_refl _) (hid_len x)) (let_len x)) (by decide +kernel)) (le_via (sz_app (sz_app (Nat.le_refl _) (hid_len x)) (Nat.le_refl _)) (by decide +kernel))
    (le_via (sz_app (sz_app (sz_app (sz_app (Nat.le_refl _) (let_len x)) (Nat.le_refl _)) (hid_len x)) (Nat.le_refl _)) (by decide +kernel)) (le_via (sz_app (sz_app (Nat.le_refl _) (let_len x)) (Nat.le_refl _)) (by decide +kernel))
theorem rowW6d : True := by
  k_with "own len" => with_reducible exact dress_len _ _
  trivial
theorem tup4 {t : PySem.Str} {a b g g' : Int} (h : g' = g) : SV.tup [.str t, .int a, .int b, .int g] = SV.tup [.str t, .int a, .int b, .int g'] := by rw [h]
theorem number (w mean mg mb) (x : Int) (tk : Tok) : Cl w mean mg mb 142 4 [.int x tk] (fun _ => True) (TupOut4 (textN x) (firstN x) (secondN x) (gainN x)) := by
  have fb1 := Int.fmod_nonneg_of_pos x (b := 5) (by decide)
  have fb2 := Int.fmod_lt_of_pos x (b := 5) (by decide)
  have fb3 := Int.fmod_nonneg_of_pos (x.fdiv 5) (b := 5) (by decide)
  have fb4 := Int.fmod_lt_of_pos (x.fdiv 5) (b := 5) (by decide)
  have fb5 := Int.fmod_nonneg_of_pos (x.fdiv 25) (b := 6) (by decide)
  have fb6 := Int.fmod_lt_of_pos (x.fdiv 25) (b := 6) (by decide)
  have fb7 := Int.fmod_nonneg_of_pos (x.fdiv 150) (b := 12) (by decide)
  have fb8 := Int.fmod_lt_of_pos (x.fdiv 150) (b := 12) (by decide)
  have fb9 := Int.fmod_nonneg_of_pos (pickN x) (b := 6) (by decide)
  have fb10 := Int.fmod_lt_of_pos (pickN x) (b := 6) (by decide)
  unfold Cl; k_fill
  intro dp un gd cn cs a ccd cl outer A₀ base h₀ L m news s Q E B F X NN T hk hd hu hP hret
  refine wpAny_call ?_
  k_dflt ktr_enter
  rename Fr _ _ _ _ => F1
  rename News _ _ _ _ => N1
  rename Frag.In _ _ => X1
  rename Top _ _ _ _ _ _ => T1
  show wpAny (model PySem.Challenge.rw_wf0099_01.prog w) (ktrTop _ _ _ _ _ _ _ _ _ _) (execs _ (envX _ _ _ _ _ _)) _ _ _
  (with_reducible refine body_soundN (W := news) (K := fun v => v = .tup [.str (textN x), .int (firstN x), .int (secondN x), .int (gainN x)]) (x := PySem.Str.ofString "x") (sv := .int x) (v := .int x tk) ?oe ?hk X1 T1 ?ks ?pe ?vc F1 N1 ?kx ?hm ?rr ?_)
  case oe => exact ⟨fun _ => rfl, fun _ => rfl, fun _ => rfl⟩
  case hk => rfl
  case ks => rfl
  case pe => passes_own
  case kx => rfl
  case hm => rfl
  case rr => exact .int _ _
  case vc =>
    refine And.intro (by decide) ?_
    refine And.intro ⟨by decide, noPy (by decide)⟩ ?_
    refine And.intro (by decide) ?_
    refine And.intro ⟨by decide, noPy (by decide)⟩ ?_
    refine And.intro (by decide) ?_
    refine And.intro ⟨by decide, noPy (by decide)⟩ ?_
    refine And.intro (by decide) ?_
    refine XeN.idx (signL.map SV.int) (fun k => .int (signL.getD k 0)) at_int (by decide) rfl ?_
    refine ⟨_, rfl, rfl, ⟨fb7, fb8⟩, ?_⟩
    refine ⟨rfl, menu_ok (by decide) _, ?_⟩
    refine XeN.idx (unseenL.map SV.int) (fun k => .int (unseenL.getD k 0)) at_int (by decide) rfl ?_
    refine And.intro (by decide) ?_
    refine ⟨_, rfl, rfl, ⟨fb9, fb10⟩, ?_⟩
    refine ⟨rfl, menu_ok (by decide) _, ?_⟩
    refine And.intro (by k_extra "own add") ?_
    refine And.intro (by k_extra "own add") ?_
    refine And.intro (by k_extra "own add") ?_
    refine And.intro (by k_extra "own add") ?_
    refine XeN.cat ?_
    refine And.intro (by k_extra "own add") ?_
    refine And.intro (by k_extra "own add") ?_
    refine And.intro (by k_extra "own add") ?_
    refine And.intro (by k_extra "own add") ?_
    refine And.intro (by k_extra "own add") ?_
    refine And.intro (by k_extra "own add") ?_
    refine ⟨_, _, rfl, rfl, Nat.le_of_ble_eq_true rfl, ?_⟩
    refine And.intro (fun e1 => ?_) (fun e1 => ?_)
    · refine XeN.sum ?_
      refine XeN.idx (heardL.map SV.str) (fun k => .str (heardL.getD k PySem.Str.empty)) at_str (by decide) rfl ?_
      refine ⟨_, rfl, rfl, ⟨fb7, fb8⟩, ?_⟩
      refine ⟨_, rfl, by k_extra "own size", ?_⟩
      refine And.intro (fun e2 => absurd (eq_t e2) (by rw [eq_t e1]; decide)) (fun e2 => ?_)
      refine And.intro (mul_small len_lt (by omega) (by omega)) ?_
      refine And.intro (mul_small len_gt (by omega) (by omega)) ?_
      refine And.intro (by k_extra "own add") ?_
      refine XeN.ns ?_
      refine ⟨_, _, rfl, rfl, by k_extra "own size", ?_⟩
      refine XeN.idx ((dressL x).map SV.str) (fun k => .str ((dressL x).getD k PySem.Str.empty)) at_str (Nat.le_of_ble_eq_true rfl) rfl ?_
      refine ⟨_, rfl, rfl, ⟨fb5, fb6⟩, ?_⟩
      refine And.intro (by k_extra "own add") ?_
      refine XeN.sn ?_
      refine ⟨_, _, rfl, rfl, by k_extra "own size", ?_⟩
      refine And.intro (by k_extra "own add") ?_
      refine And.intro (by k_extra "own add") ?_
      refine And.intro (mul_small len_lt (by omega) (by omega)) ?_
      refine And.intro (by k_extra "own add") ?_
      refine And.intro (mul_small len_gt (by omega) (by omega)) ?_
      refine And.intro (by k_extra "own add") ?_
      exact tup4 (gain1 (eq_t e1))
    · refine And.intro (fun e2 => ?_) (fun e2 => ?_)
      · refine XeN.sum ?_
        refine XeN.sn ?_
        refine XeN.idx (heardL.map SV.str) (fun k => .str (heardL.getD k PySem.Str.empty)) at_str (by decide) rfl ?_
        refine ⟨_, rfl, rfl, ⟨fb7, fb8⟩, ?_⟩
        refine ⟨_, _, rfl, rfl, by k_extra "own size", ?_⟩
        refine ⟨_, rfl, by k_extra "own size", ?_⟩
        refine And.intro (mul_small len_lt (by omega) (by omega)) ?_
        refine And.intro (mul_small len_gt (by omega) (by omega)) ?_
        refine And.intro (by k_extra "own add") ?_
        refine XeN.ns ?_
        refine ⟨_, _, rfl, rfl, by k_extra "own size", ?_⟩
        refine XeN.idx ((dressL x).map SV.str) (fun k => .str ((dressL x).getD k PySem.Str.empty)) at_str (Nat.le_of_ble_eq_true rfl) rfl ?_
        refine ⟨_, rfl, rfl, ⟨fb5, fb6⟩, ?_⟩
        refine And.intro (by k_extra "own add") ?_
        refine XeN.sn ?_
        refine ⟨_, _, rfl, rfl, by k_extra "own size", ?_⟩
        refine And.intro (by k_extra "own add") ?_
        refine And.intro (by k_extra "own add") ?_
        refine And.intro (mul_small len_lt (by omega) (by omega)) ?_
        refine And.intro (by k_extra "own add") ?_
        refine And.intro (mul_small len_gt (by omega) (by omega)) ?_
        refine And.intro (by k_extra "own add") ?_
        exact tup4 (gain2 (eq_t e2))
      · refine And.intro (mul_small len_lt (by omega) (by omega)) ?_
        refine And.intro (mul_small len_gt (by omega) (by omega)) ?_
        refine And.intro (by k_extra "own add") ?_
        refine XeN.ns ?_
        refine ⟨_, _, rfl, rfl, by k_extra "own size", ?_⟩
        refine XeN.idx ((dressL x).map SV.str) (fun k => .str ((dressL x).getD k PySem.Str.empty)) at_str (Nat.le_of_ble_eq_true rfl) rfl ?_
        refine ⟨_, rfl, rfl, ⟨fb5, fb6⟩, ?_⟩
        refine And.intro (by k_extra "own add") ?_
        refine XeN.sn ?_
        refine ⟨_, _, rfl, rfl, by k_extra "own size", ?_⟩
        refine And.intro (by k_extra "own add") ?_
        refine And.intro (by k_extra "own add") ?_
        refine And.intro (mul_small len_lt (by omega) (by omega)) ?_
        refine And.intro (by k_extra "own add") ?_
        refine And.intro (mul_small len_gt (by omega) (by omega)) ?_
        refine And.intro (by k_extra "own add") ?_
        exact tup4 (gain0 (eq_f e1) (eq_f e2))
  · rintro v sv h' tk m' tl l2 F2 N2 hsub ap rfl rep
    rcases rep with _ | _ | _ | _ | _ | ⟨D, vs, _, hm, hr⟩
    rcases hr with _ | ⟨r1, _ | ⟨r2, _ | ⟨r3, _ | ⟨r4, r5⟩⟩⟩⟩
    cases r1; cases r2; cases r3; cases r4; cases r5
    have hm := List.append_nil tl ▸ hm
    exact leaveK_ F2 N2 fun F3 N3 => hret (.ref D) [(D, _)] h' tk F3 (fun p hp => (List.mem_append.mp hp).elim (fun hp => N3 p (hsub p (List.mem_append.mpr (.inl (List.mem_singleton.mp hp ▸ hm))))) fun hp => N3 p (hsub p (List.mem_append.mpr (.inr hp)))) (fun q hq p hp => by rw [List.mem_singleton.mp hp]; exact ap q hq _ hm) (.mk D _ _ _ _)
end Mine
end
section
open PySem PySem.W PyProof.Rows PySem.Spec PySem.Calls Lean Meta Elab Tactic
set_option Elab.async false
set_option maxRecDepth 100000
set_option maxHeartbeats 2000000
namespace Mine
noncomputable def b1L : List Int := [173, 847, 6150, 6155, 6156, 6157, 8203, 8204, 8205, 8288, 65279, 65024, 65025, 65026, 65027, 65028, 65029, 65030, 65031, 65032, 65033, 65034, 65035, 65036, 65037, 65038, 65039]
noncomputable def b1F (c : Nat) : Bool := b1L.contains (c : Int)
noncomputable def b1E : List (Int × Value) := [(65024, (.int 65024 292)), (65025, (.int 65025 293)), (65026, (.int 65026 294)), (65027, (.int 65027 295)), (65028, (.int 65028 296)), (65029, (.int 65029 297)), (6150, (.int 6150 278)), (65030, (.int 65030 298)), (65031, (.int 65031 299)), (65032, (.int 65032 300)), (65033, (.int 65033 301)), (6155, (.int 6155 279)), (6156, (.int 6156 280)), (6157, (.int 6157 281)), (8203, (.int 8203 282)), (8204, (.int 8204 283)), (8205, (.int 8205 284)), (65034, (.int 65034 302)), (65035, (.int 65035 303)), (65036, (.int 65036 304)), (65037, (.int 65037 305)), (65038, (.int 65038 306)), (65039, (.int 65039 307)), (173, (.int 173 276)), (847, (.int 847 277)), (8288, (.int 8288 285)), (65279, (.int 65279 286))]
noncomputable def intKeyed (e : Int × Value) : Bool := match e.2 with | .int i _ => decide (e.1 = hashInt i) | _ => false
theorem b1_keyed : ∀ e ∈ b1E, intKeyed e = true := by decide +kernel
theorem b1_there : ∀ k ∈ b1L, b1E.any (fun e => Value.isInt k e.2) = true := by decide +kernel
theorem b1_back : ∀ e ∈ b1E, (match e.2 with | .int i _ => decide (i ∈ b1L) | _ => false) = true := by decide +kernel
theorem set64 {prog : Program} {w : World} {P : Params} {h : Heap} (ho : h.get? 64 = some (o64 P)) : h.SetOf (intKind prog w) 64 (fun k => b1L.contains k) 27 := by
  have hi : ∀ e ∈ b1E, ∃ i t, e.2 = .int i t ∧ e.1 = hashInt i := fun e he => by
    have := b1_keyed e he
    unfold intKeyed at this
    split at this
    · exact ⟨_, _, by assumption, by simpa using this⟩
    · cases this
  refine ⟨_, b1E.toArray, 29, _, ho, ⟨rfl, rfl, rfl⟩, rfl, ?_, ?_, by decide, rfl, rfl⟩
  · intro e he
    obtain ⟨i, t, e1, e2⟩ := hi e (by simpa using he)
    rw [e1]
    exact ⟨⟨i, intKind_is prog w i t, e2⟩, rfl⟩
  · intro k
    show b1L.contains k = true ↔ ∃ e ∈ b1E, Value.isInt k e.2 = true
    rw [List.contains_iff_mem]
    constructor
    · intro hk
      have := b1_there k hk
      obtain ⟨e, he, h⟩ := List.any_eq_true.mp this
      exact ⟨e, he, h⟩
    · rintro ⟨e, he, h⟩
      obtain ⟨t, h⟩ := Value.isInt_shape h
      have := b1_back e he
      rw [h] at this
      simpa using this
theorem in64 {prog : Program} {w : World} {A : Around} {E : Value → Shared → Prop} {s : Shared} {P : Params} {c : Nat} {t : Tok} {Q : Value → Shared → Prop} (ho : s.heap.get? 64 = some (o64 P))
    (h : Q (.bool (b1F c)) { s with toks := s.toks + 1 }) : wpAny (model prog w) A (compareOp .In (.int (c : Int) t) (.ref 64)) Q E s :=
  wpAny_inSet_of (knd := intKind prog w) (intKind_is _ _ _ _) rfl (set64 ho) h
theorem inK {K : Frag} {h₀ h : Heap} {L : Addr} {m : PySem.Str → Option Value} {a : Addr} {o : Obj} (X : K.In h₀) (F : Fr h₀ L h m) (e : K.lookup a = some o) : h.get? a = some o := F.keep _ _ (X _ _ e)
theorem rowW70 : True := by
  k_with_none
  trivial
theorem rowW71 : True := by
  k_with "compareOp In int ref" => k_here; k_dflt (refine' in64 (inK (by k_asm) (by k_asm) (by k_is)) ?_)
  trivial
theorem tabB1 (w mean mg mb) (c : Nat) (tk : Tok) : Cl w mean mg mb 74 1 [.str ⟨#[c]⟩ tk] (fun _ => True) (fun _ tl v => v = .bool (b1F c) ∧ tl = []) := by
  unfold Cl; k_fill
  intro dp un gd cn cs a ccd cl outer A₀ base h₀ L m news s Q E B F X N T hk hd hu hP hret
  refine wpAny_call ?_
  k_dflt ktr_enter
  k_steps
  all_goals exact hret _ [] _ _ (by k_asm) (by k_asm) (fun _ _ _ h => nomatch h) ⟨rfl, rfl⟩
noncomputable def b3V (P : Params) (k : Int) : Option Value := findBy Value.isInt (dEnd P).es.toArray k
noncomputable def keyedE (e : DictEntry) : Bool := match e.key with | .int i _ => decide (e.hash = hashInt i) | _ => false
noncomputable def txtE (e : DictEntry) : Bool := match e.val with | .str y _ => decide (y.length ≤ 8) | _ => false
theorem b3_keyed (P : Params) : (dEnd P).es.all keyedE = true := by kernel_rfl
theorem b3_txt (P : Params) : (dEnd P).es.all txtE = true := by kernel_rfl
theorem b3V_txt {P : Params} {k : Int} {v : Value} (h : b3V P k = some v) : ∃ y t, v = .str y t ∧ y.length ≤ 8 := by
  unfold b3V findBy at h
  obtain ⟨e, he, rfl⟩ := Option.map_eq_some_iff.mp h
  have hm : e ∈ (dEnd P).es := by
    have := Array.mem_of_find?_eq_some he
    simpa using this
  have := List.all_eq_true.mp (b3_txt P) e hm
  unfold txtE at this
  split at this
  · exact ⟨_, _, by assumption, by simpa using this⟩
  · cases this
theorem map75 {prog : Program} {w : World} {P : Params} {h : Heap} (ho : h.get? 75 = some (o75 P)) : h.MapOf (intKind prog w) 75 (b3V P) := by
  refine ⟨_, (dEnd P).es.toArray, (dEnd P).ep, ho, ⟨rfl, rfl, rfl⟩, rfl, ?_, fun _ => rfl⟩
  intro e he
  have := List.all_eq_true.mp (b3_keyed P) e (by simpa using he)
  unfold keyedE at this
  split at this
  · rename_i i t e1
    exact ⟨i, by rw [e1]; exact intKind_is prog w i t, of_decide_eq_true this⟩
  · cases this
noncomputable def mapF (P : Params) (c : Nat) : PySem.Str := match b3V P c with
  | some (.str y _) => y
  | _ => Txt.lower ⟨#[c]⟩
theorem getMethod_map {K : Type} [DecidableEq K] {prog : Program} {w : World} {knd : KeyKind prog w K} {A : Around} {E : Value → Shared → Prop} {s : Shared} {d : Addr} {f : K → Option Value} {pl : Sem Bool} {Q : Value × List Value → Shared → Prop} (T : s.heap.MapOf knd d f) (h : Q (.builtin "dict.get", [.ref d]) s) :
    wpAny (model prog w) A (getMethod (.ref d) "get" pl) Q E s :=
  getMethod_builtin T.typeIs PySem.F.plainAttrs_dict PySem.F.slot_dict_get PySem.F.type_dict_get T.noDict h
theorem get_map {K : Type} [DecidableEq K] {prog : Program} {w : World} {knd : KeyKind prog w K} {A : Around} {E : Value → Shared → Prop} {s : Shared} {d : Addr} {f : K → Option Value} {k : K} {key : Value} {Q : Value → Shared → Prop} (T : s.heap.MapOf knd d f) (lo : (d == sysModules) = false) (hkey : knd.is k key = true)
    {x : Option Value} (hx : f k = x) (h : Q (x.getD .none) { s with toks := s.toks + 1 }) : wpAny (model prog w) A (call (.builtin "dict.get") [.ref d, key]) Q E s :=
  call_meetsIn PySem.F.slot_dict_get T.typeIs PySem.F.entry_dict_get (PySem.F.args_dict_get_2 _ _) (meets_dict_get knd d hkey lo) ⟨_, T, by rw [hx]; exact h⟩
theorem rowW72 : True := by
  k_with "getMethod ref" => k_here; (with_reducible show wpAny _ _ (getMethod (Value.ref 75) _ _) _ _ _); k_dflt (refine' getMethod_map (map75 (inK (by k_asm) (by k_asm) (by k_is))) ?_)
  trivial
theorem rowW73 : True := by
  k_with "call builtin:dict.get" => k_here; (with_reducible show wpAny _ _ (call _ [Value.ref 75, _]) _ _ _); k_dflt (refine' get_map (map75 (inK (by k_asm) (by k_asm) (by k_is))) rfl (intKind_is _ _ _ _) (by assumption) ?_); (try dsimp only [Option.getD])
  trivial
theorem one_fit (c : Nat) : (⟨#[c]⟩ : PySem.Str).length ≤ 5592405 := by show 1 ≤ 5592405; decide
theorem mapF_none {P : Params} {c : Nat} (h : b3V P c = none) : mapF P c = Txt.lower ⟨#[c]⟩ := by unfold mapF; rw [h]
theorem mapF_some {P : Params} {c : Nat} {y : PySem.Str} {t : Tok} (h : b3V P c = some (.str y t)) : mapF P c = y := by unfold mapF; rw [h]
theorem rowW74 : True := by
  k_with "call builtin:str.lower" => k_here; k_dflt (refine SCL.lower (one_fit _) ?_; intro _)
  trivial
theorem mapTab (w mean mg mb) (c : Nat) (tk : Tok) : Cl w mean mg mb 120 1 [.str ⟨#[c]⟩ tk] (fun _ => True) (fun _ tl v => (∃ t, v = .str (mapF w.params c) t) ∧ tl = []) := by
  cases hb3 : b3V w.params c with
  | none =>
    unfold Cl; k_fill
    intro dp un gd cn cs a ccd cl outer A₀ base h₀ L m news s Q E B F X N T hk hd hu hP hret
    refine wpAny_call ?_
    k_dflt ktr_enter
    k_steps
    all_goals exact hret _ [] _ _ (by k_asm) (by k_asm) (fun _ _ _ h => nomatch h) ⟨⟨_, by rw [mapF_none hb3]⟩, rfl⟩
  | some v =>
    obtain ⟨y, ty, rfl, hy⟩ := b3V_txt hb3
    unfold Cl; k_fill
    intro dp un gd cn cs a ccd cl outer A₀ base h₀ L m news s Q E B F X N T hk hd hu hP hret
    refine wpAny_call ?_
    k_dflt ktr_enter
    k_steps
    all_goals exact hret _ [] _ _ (by k_asm) (by k_asm) (fun _ _ _ h => nomatch h) ⟨⟨_, by rw [mapF_some hb3]⟩, rfl⟩
end Mine
end
section
open PySem PySem.W PyProof.Rows PySem.Spec PySem.Calls Lean Meta Elab Tactic
set_option Elab.async false
set_option maxRecDepth 100000
set_option maxHeartbeats 2000000
namespace Mine
/-- what _iter_escaped_chars hands on -/
noncomputable def unitsF : List Nat → Nat → Bool → List (Nat × List Nat)
  | [], _, false => []
  | [], i, true => [(i - 1, [92])]
  | c :: l, i, true => (i, [92, c]) :: unitsF l (i + 1) false
  | c :: l, i, false => if c = 92 then unitsF l (i + 1) true else (i, [c]) :: unitsF l (i + 1) false
noncomputable abbrev nm (x : String) (p : Pos) : PySem.Expr := .Name (PySem.Str.ofString x) p
noncomputable abbrev bsS : PySem.Str := PySem.Str.ofString "\\"
structure GEnv (env : Env) : Prop where
  addr : env.kindOf (PySem.Str.ofString "addr") = some .local
  pos : env.kindOf (PySem.Str.ofString "pos") = some .local
  esc : env.kindOf (PySem.Str.ofString "escape") = some .local
  ch : env.kindOf (PySem.Str.ofString "ch") = some .local
  kind : env.scope.kind = .function
  hp : (env.scope.kind == .class || (env.scope.kind == .module && env.locals != env.globals)) = false
  co : env.scope.isCoroutine = false
  inter : interactive env = false
noncomputable def isIter (o : Obj) : Prop := (o.cls = .type "enumerate" ∨ o.cls = .type "str_iterator" ∨ o.cls = .type "str_ascii_iterator") ∧ ∀ es ep, o.data ≠ .dict es ep
noncomputable def KeptG (C : Addr) (s₀ s : Shared) : Prop := ∃ h' tk, s = { s₀ with heap := h', toks := tk } ∧ ∀ b o, b ≠ C → (isIter o → b < C) → s₀.heap.get? b = some o → h'.get? b = some o
noncomputable def escProto (C : Addr) (us : List (Nat × List Nat)) : Protocol := fun m s₀ v s kap =>
  (∃ p u T t1 t2, us[us.length - 1 - m]? = some (p, u) ∧ v = .ref T ∧ s.heap.get? T = some (tupO #[.int (p : Nat) t1, .str ⟨u.toArray⟩ t2]) ∧ C < T) ∧ KeptG C s₀ s ∧
    ∃ e it oC oe oi, C ≤ e ∧ C ≤ it ∧ s.heap.get? C = some oC ∧ s.heap.get? e = some oe ∧ s.heap.get? it = some oi ∧ (e = C ∨ isIter oe) ∧ (it = C ∨ isIter oi) ∧
      ∀ s'' : Shared, (∀ b ∈ [C, e, it], ∀ o, s.heap.get? b = some o → s''.heap.get? b = some o) → kap (.send .none) s''
/-- at a segment's start the two iterators are iterators, where they are at all -/
noncomputable def StartOK (C : Addr) (wr : List Addr) (s₀ : Shared) : Prop := ∀ b ∈ wr, C < b ∧ ∀ o, s₀.heap.get? b = some o → isIter o
theorem keptOf {C : Addr} {wr : List Addr} {s₀ s : Shared} (x : GenSince C wr s₀ s) (z : StartOK C wr s₀) : KeptG C s₀ s := by
  obtain ⟨h', tk, rfl, hk⟩ := x
  refine ⟨h', tk, rfl, fun b o hb hi e => hk b o hb (fun hw => ?_) e⟩
  have q := z b hw
  exact Nat.lt_irrefl _ (Nat.lt_trans q.1 (hi (q.2 o e)))
section
variable {M : Model} {A : Around} {R : GenEnd} {Y : Protocol} {n : Nat} {s₀ : Shared} {c : Code} {fs : List Frame} {s : Shared} {env : Env}
  {K : Flow → Sem Fin} {H : Value → Sem Fin} {gd : Bool → Bool} {lv : List Value → List Value}
theorem seg_If {test : PySem.Expr} {body orelse : List Stmt} {pos : Pos}
    (h : wpAny M (A.over c fs) (isTrue test env (eval test env)) (fun b s' => if b = true then Seg M A R Y n s₀ c ((execs body env).wrap K H gd lv) fs s' else Seg M A R Y n s₀ c ((execs orelse env).wrap K H gd lv) fs s') (fun x s' => Seg M A R Y n s₀ c (H x) fs s') s) :
    Seg M A R Y n s₀ c ((exec (.If test body orelse pos) env).wrap K H gd lv) fs s := by
  rw [exec_If]
  refine seg_bind_wrap (wpAny_standAt ?_)
  refine seg_bind_wrap (wpAny_mono h (fun b s' h' => ?_) fun _ _ x => x)
  cases b with
  | true => rw [if_pos rfl] at h'; exact h'
  | false => rw [if_neg Bool.false_ne_true] at h'; exact h'
end
section
variable {prog : Program} {w : World} {A : Around} {E : Value → Shared → Prop} {s : Shared} {env : Env} {m : PySem.Str → Option Value}
theorem name_loc {x : PySem.Str} {p : Pos} {v : Value} {Q : Value → Shared → Prop} (hk : env.scope.kind = .function) (hl : env.kindOf x = some .local) (hn : s.heap.Ns env.locals m) (hv : m x = some v) (h : Q v s)
    (hd : (x == ("__debug__" : PySem.Str)) = false := by decide) : wpAny (model prog w) A (eval (.Name x p) env) Q E s :=
  wpAny_Name (wpAny_loadName_local hk hl hn hv h) hd
theorem assign_loc {x : PySem.Str} {p pos : Pos} {value : PySem.Expr} {v : Value} {Q : Flow → Shared → Prop} (hl : env.kindOf x = some .local) (hp : (env.scope.kind == .class || (env.scope.kind == .module && env.locals != env.globals)) = false)
    (hv : ∀ Q' : Value → Shared → Prop, Q' v s → wpAny (model prog w) A (eval value env) Q' E s) (hn : s.heap.Ns env.locals m)
    (h : ∀ h', h'.Ns env.locals (fun z => if z = x then some v else m z) → Heap.SameBut env.locals s.heap h' → Q .next { s with heap := h', toks := s.toks + 1 })
    (hs : swapsWith value (some (.Name x p)) pos.line env = pure false := by rfl) : wpAny (model prog w) A (exec (.Assign [.Name x p] value pos) env) Q E s :=
  wpAny_Assign_Name (hv _ (wpAny_storeName_local hl hn h hp)) hs
end
section
variable {prog : Program} {w : World} {A : Around} {env : Env}
/-- a yield of the pair (pos, text) -/
theorem seg_pair {R : GenEnd} {n : Nat} {s₀ : Shared} {c : Code} {fs : List Frame} {s : Shared} {K : Flow → Sem PySem.Fin} {H : Value → Sem PySem.Fin} {gd : Bool → Bool} {lv : List Value → List Value} {us : List (Nat × List Nat)}
    {e : PySem.Expr} {p1 p2 p3 p4 : Pos} {m : PySem.Str → Option Value} (G : GEnv env) (hfs : splitAtGen fs = none) (hgd : gd false = false) (hfg : fs.any Frame.guarded = false)
    (hn : s.heap.Ns env.locals m) {k : Nat} {t : Tok} {u : List Nat} (hpos : m (PySem.Str.ofString "pos") = some (.int (k : Nat) t))
    (hu : us[us.length - 1 - n]? = some (k, u)) (hsince : KeptG env.locals s₀ s) (E1 E2 : Addr) (h1 : env.locals ≤ E1) (h2 : env.locals ≤ E2) (he1 : ∃ o, s.heap.get? E1 = some o ∧ (E1 = env.locals ∨ isIter o)) (he2 : ∃ o, s.heap.get? E2 = some o ∧ (E2 = env.locals ∨ isIter o))
    (he : ∀ (A' : Around) (Q : Value → Shared → Prop) (E : Value → Shared → Prop), (∀ t' tk, Q (.str ⟨u.toArray⟩ t') { s with toks := tk }) → wpAny (model prog w) A' (eval e env) Q E s)
    (hst : starEach [.Name (PySem.Str.ofString "pos") p1, e] env = [(false, eval (.Name (PySem.Str.ofString "pos") p1) env), (false, eval e env)])
    (next : ∀ s'' : Shared, (∀ b ∈ [env.locals, E1, E2], ∀ o, s.heap.get? b = some o → s''.heap.get? b = some o) → Seg (model prog w) A R (escProto env.locals us) n s'' c (K .next) fs s'') :
    Seg (model prog w) A R (escProto env.locals us) (n + 1) s₀ c ((exec (.Expr (.Yield (some (.Tuple [.Name (PySem.Str.ofString "pos") p1, e] 0 p2)) p3) p4) env).wrap K H gd lv) fs s := by
  refine seg_Expr_Yield hfs hgd hfg ?_ G.co G.inter
  refine wpAny_Tuple_spliced ?_
  rw [hst]
  show wpAny _ _ (spliced [(false, eval (.Name (PySem.Str.ofString "pos") p1) env), (false, eval e env)]) _ _ _
  refine Calls.spliced_cons (name_loc G.kind G.pos hn hpos ?_)
  refine Calls.spliced_cons (he _ _ _ fun t' tk => Calls.spliced_nil ⟨by show 2 ≤ sizeLine; decide, ?_⟩)
  intro kap hkap
  obtain ⟨h', tk', rfl, hk⟩ := hsince
  obtain ⟨o1, e1, x1⟩ := he1
  obtain ⟨o2, e2, x2⟩ := he2
  obtain ⟨oC, _, _, eC, _⟩ := id hn
  refine ⟨⟨k, u, h'.objs.size, t, t', hu, rfl, Heap.get?_push_size _ rfl, hn.lt⟩, ⟨_, _, rfl, fun b o hb hi e => Heap.get?_push_of_some _ (hk b o hb hi e)⟩, E1, E2, oC, o1, o2, h1, h2, Heap.get?_push_of_some _ eC, Heap.get?_push_of_some _ e1, Heap.get?_push_of_some _ e2, x1, x2, fun s'' hs'' => ?_⟩
  refine hkap .none s'' ?_
  exact next s'' fun b hb o e => hs'' b hb o (Heap.get?_push_of_some _ e)

noncomputable abbrev pairB (p1 p2 p3 p4 p5 p6 p7 : Pos) : Stmt := .Expr (.Yield (some (.Tuple [nm "pos" p1, .BinOp (.Constant (.str (PySem.Str.ofString "\\")) 0 p2) .Add (nm "ch" p3) p4] 0 p5)) p6) p7
noncomputable abbrev escIf (p1 p2 p3 p4 p5 p6 p7 p8 p9 p10 p11 p12 p13 p14 p15 p16 p17 p18 p19 p20 p21 p22 p23 p24 : Pos) : Stmt :=
  .If (nm "escape" p1) [pairB p2 p3 p4 p5 p6 p7 p8, .Assign [nm "escape" p9] (.Constant (.bool false) 0 p10) p11]
    [.If (.Compare (nm "ch" p12) [.Eq] [.Constant (.str (PySem.Str.ofString "\\")) 0 p13] p14) [.Assign [nm "escape" p15] (.Constant (.bool true) 0 p16) p17]
      [.Expr (.Yield (some (.Tuple [nm "pos" p18, nm "ch" p19] 0 p20)) p21) p22] p23] p24
theorem starEach_bin {a l r : PySem.Expr} {op : Operator} {p q : Pos} {x : PySem.Str} : starEach [.Name x p, .BinOp l op r q] env = [(false, eval (.Name x p) env), (false, eval (.BinOp l op r q) env)] := rfl
/-- one turn's body: at a sign, with the flag -/
theorem seg_escIf {R : GenEnd} {n : Nat} {s₀ : Shared} {c : Code} {fs : List Frame} {s : Shared} {K : Flow → Sem Fin} {H : Value → Sem Fin} {gd : Bool → Bool} {lv : List Value → List Value} {e1 e2 : Addr} {us : List (Nat × List Nat)}
    {p1 p2 p3 p4 p5 p6 p7 p8 p9 p10 p11 p12 p13 p14 p15 p16 p17 p18 p19 p20 p21 p22 p23 p24 : Pos} {m : PySem.Str → Option Value} (G : GEnv env) (hfs : splitAtGen fs = none) (hgd : gd false = false) (hfg : fs.any Frame.guarded = false)
    (hC1 : env.locals < e1) (hC2 : env.locals < e2)
    (hn : s.heap.Ns env.locals m) {i : Nat} {t t2 : Tok} {ch : Nat} {e : Bool} {rest : List Nat} (hpos : m (PySem.Str.ofString "pos") = some (.int (i : Nat) t)) (hch : m (PySem.Str.ofString "ch") = some (.str ⟨#[ch]⟩ t2)) (hesc : m (PySem.Str.ofString "escape") = some (.bool e))
    (pre : List (Nat × List Nat)) (hus : us = pre ++ unitsF (ch :: rest) i e) (hN : n = (unitsF (ch :: rest) i e).length) (hsince : GenSince env.locals [e1, e2] s₀ s) (hS : StartOK env.locals [e1, e2] s₀) (hit1 : ∃ o, s.heap.get? e1 = some o ∧ isIter o) (hit2 : ∃ o, s.heap.get? e2 = some o ∧ isIter o)
    (next : ∀ (e' : Bool) (s₀' s' : Shared) (m' : PySem.Str → Option Value) (pre' : List (Nat × List Nat)), us = pre' ++ unitsF rest (i + 1) e' → s'.heap.Ns env.locals m' → m' (PySem.Str.ofString "escape") = some (.bool e') → m' (PySem.Str.ofString "pos") = some (.int (i : Nat) t) →
      (∀ b ∈ [e1, e2], ∀ o, s.heap.get? b = some o → s'.heap.get? b = some o) → GenSince env.locals [e1, e2] s₀' s' → StartOK env.locals [e1, e2] s₀' →
      Seg (model prog w) A R (escProto env.locals us) (unitsF rest (i + 1) e').length s₀' c (K .next) fs s') :
    Seg (model prog w) A R (escProto env.locals us) n s₀ c ((execs [escIf p1 p2 p3 p4 p5 p6 p7 p8 p9 p10 p11 p12 p13 p14 p15 p16 p17 p18 p19 p20 p21 p22 p23 p24] env).wrap K H gd lv) fs s := by
  subst hN
  have hCf : ∀ b ∈ [e1, e2], b ≠ env.locals := fun b hb q => by
    rcases List.mem_cons.mp hb with rfl | hb
    · exact Nat.lt_irrefl _ (q ▸ hC1)
    · rcases List.mem_cons.mp hb with rfl | hb
      · exact Nat.lt_irrefl _ (q ▸ hC2)
      · cases hb
  have start : ∀ s'' : Shared, (∀ b ∈ [e1, e2], ∀ o, s.heap.get? b = some o → s''.heap.get? b = some o) → StartOK env.locals [e1, e2] s'' := fun s'' hk b hb => by
    rcases List.mem_cons.mp hb with rfl | hb'
    · obtain ⟨o, x, y⟩ := hit1
      exact ⟨hC1, fun o' e => by rw [hk _ hb _ x] at e; cases e; exact y⟩
    · rcases List.mem_cons.mp hb' with rfl | hb'
      · obtain ⟨o, x, y⟩ := hit2
        exact ⟨hC2, fun o' e => by rw [hk _ hb _ x] at e; cases e; exact y⟩
      · cases hb'
  refine seg_execs_cons ?_
  refine seg_If ?_
  refine wpAny_isTrue_value (name_loc G.kind G.esc hn hesc (wpAny_truthy_bool ?_))
  cases e with
  | true =>
    rw [if_pos rfl]
    refine seg_execs_cons ?_
    have hu : unitsF (ch :: rest) i true = (i, [92, ch]) :: unitsF rest (i + 1) false := rfl
    rw [hu, List.length_cons]
    rw [hu] at hus
    refine seg_pair G hfs hgd hfg hn hpos (u := [92, ch]) (by rw [hus]; simp) (keptOf hsince hS) e1 e2 (Nat.le_of_lt hC1) (Nat.le_of_lt hC2) ⟨_, hit1.choose_spec.1, .inr hit1.choose_spec.2⟩ ⟨_, hit2.choose_spec.1, .inr hit2.choose_spec.2⟩ (fun A' Q E hQ => ?_) rfl (fun s'' hal => ?_)
    · refine wpAny_BinOp (wpAny_Constant_str (name_loc (s := { s with toks := s.toks + 1 }) G.kind G.ch hn hch ?_))
      refine PyProof.Rows.add_str (fun t' tk => ?_) (by show 1 + 1 ≤ sizeLine; decide)
      have : (PySem.Str.ofString "\\" ++ (⟨#[ch]⟩ : PySem.Str)) = ⟨[92, ch].toArray⟩ := by
        show (⟨#[92] ++ #[ch]⟩ : PySem.Str) = _
        rfl
      rw [this]
      exact hQ _ _
    · have hn'' : s''.heap.Ns env.locals m := hn.at' fun o e => hal _ (List.mem_cons_self ..) o e
      refine seg_execs_cons ?_
      refine seg_wrap (assign_loc G.esc G.hp (fun Q' hQ' => wpAny_Constant_bool hQ') hn'' (fun h' hn' hs' => ?_))
      refine seg_execs_nil ?_
      refine next false s'' _ _ (pre ++ [(i, [92, ch])]) (by rw [hus]; simp) hn' (by simp) ?_ (fun b hb o e => ?_) ?_ ?_
      · have : (PySem.Str.ofString "pos" = PySem.Str.ofString "escape") = False := by decide
        simp only [this, if_false]; exact hpos
      · exact hs'.extBut b o (hCf b hb) (hal b (List.mem_cons_of_mem _ hb) o e)
      · exact ⟨h', _, rfl, fun b o hb _ e => hs'.extBut b o hb e⟩
      · exact start s'' fun b hb o e => hal b (List.mem_cons_of_mem _ hb) o e
  | false =>
    rw [if_neg Bool.false_ne_true]
    refine seg_execs_cons ?_
    refine seg_If ?_
    refine wpAny_isTrue_Compare1 (name_loc G.kind G.ch hn hch (wpAny_Constant_str (eq_str (wpAny_truthy_bool ?_))))
    by_cases h92 : ch = 92
    · subst h92
      rw [if_pos (by rfl)]
      have hu : unitsF (92 :: rest) i false = unitsF rest (i + 1) true := rfl
      rw [hu]
      rw [hu] at hus
      refine seg_execs_cons ?_
      refine seg_wrap (assign_loc (s := { s with toks := s.toks + 1 }) G.esc G.hp (fun Q' hQ' => wpAny_Constant_bool hQ') hn (fun h' hn' hs' => ?_))
      refine seg_execs_nil (seg_execs_nil ?_)
      refine next true s₀ _ _ pre hus hn' (by simp) ?_ (fun b hb o e => hs'.extBut b o (hCf b hb) e) (hsince.step fun b o hb _ e => hs'.extBut b o hb e) hS
      have : (PySem.Str.ofString "pos" = PySem.Str.ofString "escape") = False := by decide
      simp only [this, if_false]; exact hpos
    · have hcmp : ((⟨#[ch]⟩ : PySem.Str) == PySem.Str.ofString "\\") = false := by
        rw [beq_eq_false_iff_ne]
        intro h
        have h' : [ch] = [92] := congrArg (fun x : PySem.Str => x.cps.toList) h
        exact h92 (by simpa using h')
      rw [hcmp, if_neg Bool.false_ne_true]
      have hu : unitsF (ch :: rest) i false = (i, [ch]) :: unitsF rest (i + 1) false := if_neg h92
      rw [hu, List.length_cons]
      rw [hu] at hus
      refine seg_execs_cons ?_
      refine seg_pair (s := { s with toks := s.toks + 1 }) G hfs hgd hfg hn hpos (u := [ch]) (by rw [hus]; simp) (keptOf (hsince.step fun b o _ _ e => e) hS) e1 e2 (Nat.le_of_lt hC1) (Nat.le_of_lt hC2) ⟨_, hit1.choose_spec.1, .inr hit1.choose_spec.2⟩ ⟨_, hit2.choose_spec.1, .inr hit2.choose_spec.2⟩ (fun A' Q E hQ => name_loc G.kind G.ch hn hch (hQ _ _)) rfl (fun s'' hal => ?_)
      refine seg_execs_nil (seg_execs_nil ?_)
      exact next false s'' s'' m (pre ++ [(i, [ch])]) (by rw [hus]; simp) (hn.at' fun o e => hal _ (List.mem_cons_self ..) o e) hesc hpos (fun b hb o e => hal b (List.mem_cons_of_mem _ hb) o e) (GenSince.refl _ _ _) (start s'' fun b hb o e => hal b (List.mem_cons_of_mem _ hb) o e)
end
end Mine
end
section
open PySem PySem.W PyProof.Rows PySem.Spec PySem.Calls Lean Meta Elab Tactic
set_option Elab.async false
set_option maxRecDepth 100000
set_option maxHeartbeats 2000000
namespace Mine
section
variable {M : Model} {A : Around} {R : GenEnd} {Y : Protocol} {n : Nat} {s₀ : Shared} {c : Code} {fs : List Frame} {s : Shared} {env : Env}
  {K : Flow → Sem PySem.Fin} {H : Value → Sem PySem.Fin} {gd : Bool → Bool} {lv : List Value → List Value}
theorem seg_For {target iter : PySem.Expr} {body orelse : List Stmt} {pos : Pos}
    (h : wpAny M (A.over c fs) (eval iter env) (fun x s₁ => wpAny M (A.over c fs) (pyIter x) (fun it s₂ => ∀ p, Seg M A R Y n s₀ (.forLoop target it body orelse env) (M.den (.forLoop target it body orelse env))
      (.ret (fun r => ((match r with | .ok f => (.pure f : Sem Flow) | .error e => .raise e).onRaise fun (x : Value) => do
        if (← field x 1) == Value.none then unsupported "frame.own-activation:exception-without-traceback"
        setFlight x env.frame).wrap K H gd lv) none (gd false) (lv []) c p [] :: fs) s₂) (fun x s' => Seg M A R Y n s₀ c (H x) fs s') s₁) (fun x s' => Seg M A R Y n s₀ c (H x) fs s') s)
    (hs : ∀ x, foldedSetIterable iter env x = pure x := by intro _; rfl) :
    Seg M A R Y n s₀ c ((exec (.For target iter body orelse pos) env).wrap K H gd lv) fs s := by
  rw [exec_For]
  refine seg_bind_wrap (wpAny_standAt ?_)
  refine seg_bind_wrap (wpAny_mono h (fun x s₁ h₁ => ?_) fun _ _ e => e)
  refine seg_bind_wrap (wpAny_of_eq (hs x) ?_)
  refine seg_bind_wrap (wpAny_standAt ?_)
  refine seg_bind_wrap (wpAny_holding (wpAny_mono h₁ (fun it s₂ h₂ => ?_) fun _ _ e => e))
  exact seg_call h₂
end
section
variable {prog : Program} {w : World} {A : Around} {env : Env}
theorem seg_forLoop {R : GenEnd} {c₁ : Code} {p₁ : Pos} {fs : List Frame} {kk : Result → Sem PySem.Fin} {hd : Option Value} {g : Bool} {l : List Value} {kp : List Value} {e it : Addr} {us : List (Nat × List Nat)} {x : PySem.Str} {St : Nat → Heap → Prop} {Mid : Nat → Addr → Heap → Prop}
    {q1 q2 q3 p1 p2 p3 p4 p5 p6 p7 p8 p9 p10 p11 p12 p13 p14 p15 p16 p17 p18 p19 p20 p21 p22 p23 p24 : Pos} (G : GEnv env)
    (hh : (A.over (.forLoop (.Tuple [nm "pos" q1, nm "ch" q2] 0 q3) (.ref e) [escIf p1 p2 p3 p4 p5 p6 p7 p8 p9 p10 p11 p12 p13 p14 p15 p16 p17 p18 p19 p20 p21 p22 p23 p24] [] env) (.ret kk hd g l c₁ p₁ kp :: fs)).handled = none)
    (W : ∀ A' : Around, A'.handled = none → WalksU prog w A' e [e, it] [e, it] x.cps.size (fun i vals => ∃ t c u, x.cps[i]? = some c ∧ vals = #[.int (i : Nat) t, .str ⟨#[c]⟩ u]) St Mid)
    (hfs : splitAtGen (.ret kk hd g l c₁ p₁ kp :: fs) = none) (hfg : (.ret kk hd g l c₁ p₁ kp :: fs).any Frame.guarded = false) (hC1 : env.locals < e) (hC2 : env.locals < it) (hlive : ∀ i h, St i h → (∃ o, h.get? e = some o ∧ isIter o) ∧ ∃ o, h.get? it = some o ∧ isIter o)
    (after : ∀ (esc : Bool) (s₀ s : Shared) (m : PySem.Str → Option Value) (pre : List (Nat × List Nat)), us = pre ++ unitsF [] x.cps.size esc → s.heap.Ns env.locals m → m (PySem.Str.ofString "escape") = some (.bool esc) → (esc = true → ∃ t, m (PySem.Str.ofString "pos") = some (.int ((x.cps.size - 1 : Nat) : Int) t)) →
      GenSince env.locals [e, it] s₀ s → StartOK env.locals [e, it] s₀ → Seg (model prog w) A R (escProto env.locals us) (unitsF [] x.cps.size esc).length s₀ c₁ (kk (.ok .next)) fs s) :
    ∀ (k i : Nat) (esc : Bool) (s₀ s : Shared) (m : PySem.Str → Option Value) (pre : List (Nat × List Nat)), x.cps.size - i = k → i ≤ x.cps.size → St i s.heap → s.heap.Ns env.locals m → m (PySem.Str.ofString "escape") = some (.bool esc) → (esc = true → ∃ t, m (PySem.Str.ofString "pos") = some (.int ((i - 1 : Nat) : Int) t)) →
      GenSince env.locals [e, it] s₀ s → StartOK env.locals [e, it] s₀ → us = pre ++ unitsF (x.cps.toList.drop i) i esc →
      Seg (model prog w) A R (escProto env.locals us) (unitsF (x.cps.toList.drop i) i esc).length s₀ (.forLoop (.Tuple [nm "pos" q1, nm "ch" q2] 0 q3) (.ref e) [escIf p1 p2 p3 p4 p5 p6 p7 p8 p9 p10 p11 p12 p13 p14 p15 p16 p17 p18 p19 p20 p21 p22 p23 p24] [] env)
        ((model prog w).den (.forLoop (.Tuple [nm "pos" q1, nm "ch" q2] 0 q3) (.ref e) [escIf p1 p2 p3 p4 p5 p6 p7 p8 p9 p10 p11 p12 p13 p14 p15 p16 p17 p18 p19 p20 p21 p22 p23 p24] [] env)) (.ret kk hd g l c₁ p₁ kp :: fs) s := by
  have hC : env.locals ∉ [e, it] := fun h => by
    rcases List.mem_cons.mp h with q | h
    · exact Nat.lt_irrefl _ (q ▸ hC1)
    · exact Nat.lt_irrefl _ (List.mem_singleton.mp h ▸ hC2)
  intro k
  induction k with
  | zero =>
    intro i esc s₀ s m pre hk hi hst hn hesc hpos hsince hS hus
    have hin : i = x.cps.size := by omega
    subst hin
    show Seg _ A _ _ _ s₀ _ ((forTurn _ _ _ [] env).onRaise (fun x => do noteFrame x env; theTreesLotGoes x)) _ s
    rw [Sem.onRaise_eq_wrap]
    unfold forTurn
    refine seg_bind_wrap (wpAny_standAt ?_)
    refine seg_bind_wrap (wpAny_onRaise ((W _ hh).done s _ _ hst fun h' tk' hk' => ?_))
    refine seg_again rfl ?_
    have hdrop : x.cps.toList.drop x.cps.size = [] := by simp
    rw [hdrop] at hus ⊢
    show Seg _ A _ _ _ s₀ _ (do return PySem.Fin.done (← (execs [] env).onRaise (fun x => do noteFrame x env; theTreesLotGoes x))) _ _
    refine seg_bind (wpAny_onRaise (wpAny_execs_nil ?_))
    refine seg_leaf (.ok .next) ?_
    exact after esc s₀ _ m pre hus (hn.at' fun o e => hk' _ o hC e) hesc hpos (hsince.step fun b o _ hbw e => hk' b o hbw e) hS
  | succ k ih =>
    intro i esc s₀ s m pre hk hi hst hn hesc hpos hsince hS hus
    have hlt : i < x.cps.size := by omega
    show Seg _ A _ _ _ s₀ _ ((forTurn _ _ _ [] env).onRaise (fun x => do noteFrame x env; theTreesLotGoes x)) _ s
    rw [Sem.onRaise_eq_wrap]
    unfold forTurn
    refine seg_bind_wrap (wpAny_standAt ?_)
    refine seg_bind_wrap (wpAny_onRaise ((W _ hh).item i s _ _ hlt hst fun T vals h₁ tk₁ hP hT hM hk₁ => ?_))
    obtain ⟨t, ch, u, hch, rfl⟩ := hP
    refine seg_bind_wrap ((W _ hh).go _ _ _ i T _ _ _ hM fun h₂ hst₂ hk₂ => ?_)
    have hT₂ : h₂.IsTuple T #[.int (i : Nat) t, .str ⟨#[ch]⟩ u] := by
      obtain ⟨o, ho, r⟩ := hT
      exact ⟨o, hk₂ _ _ ((W _ hh).apart _ _ _ hM) ho, r⟩
    have hn₂ : h₂.Ns env.locals m := hn.at' fun o e => hk₂ _ o hC (hk₁ _ o hC e)
    refine seg_bind_wrap (kcp_assign hh hT₂ G.pos G.ch G.hp hn₂ fun h₃ tk₃ hn₃ hk₃ => ?_)
    rw [Sem.bind_eq_wrap', Sem.wrap_wrap]
    have hd : x.cps.toList.drop i = ch :: x.cps.toList.drop (i + 1) := by
      rw [List.drop_eq_getElem_cons (by simpa using hlt)]
      congr 1
      have : x.cps.toList[i]? = some ch := by simpa using hch
      rw [List.getElem?_eq_getElem (by simpa using hlt)] at this
      exact Option.some.inj this
    rw [hd] at hus ⊢
    have hst₃ : St (i + 1) h₃ := (W _ hh).frame _ _ _ hst₂ fun b hb o e => hk₃ b o (fun q => hC (q ▸ hb)) e
    have hsince₃ : GenSince env.locals [e, it] s₀ { s with heap := h₃, toks := tk₃ } := hsince.step fun b o hbC hbw e => hk₃ b o hbC (hk₂ b o hbw (hk₁ b o hbw e))
    have n1 : (PySem.Str.ofString "pos" = PySem.Str.ofString "ch") = False := by decide
    have n2 : (PySem.Str.ofString "escape" = PySem.Str.ofString "ch") = False := by decide
    have n3 : (PySem.Str.ofString "escape" = PySem.Str.ofString "pos") = False := by decide
    refine seg_escIf (e1 := e) (e2 := it) (i := i) (t := t) (t2 := u) (ch := ch) (e := esc) (rest := x.cps.toList.drop (i + 1)) G hfs rfl hfg hC1 hC2 hn₃ (by simp only [n1, if_false, if_true]) (by simp only [if_true]) (by simp only [n2, n3, if_false]; exact hesc) pre hus rfl hsince₃ hS (hlive _ _ hst₃).1 (hlive _ _ hst₃).2
      (fun e' s₀' s' m' pre' hus' hn' hesc' hpos' hkeep hsince' hS' => ?_)
    refine seg_again rfl ?_
    refine ih (i + 1) e' s₀' s' m' pre' (by omega) hlt ((W _ hh).frame _ _ _ hst₃ hkeep) hn' hesc' (fun _ => ⟨t, hpos'⟩) hsince' hS' hus'
end
end Mine
end
section
open PySem PySem.W PyProof.Rows PySem.Spec PySem.Calls Lean Meta Elab Tactic
set_option Elab.async false
set_option maxRecDepth 100000
set_option maxHeartbeats 2000000
namespace Mine
theorem walksPt {prog : Program} {w : World} {A : Around} {I : Addr} {fp wr : List Addr} {n : Nat} {Pt Pt' : Nat → Array Value → Prop} {St : Nat → Heap → Prop} {Mid : Nat → Addr → Heap → Prop} (W : WalksU prog w A I fp wr n Pt St Mid) (h : ∀ i v, Pt i v → Pt' i v) : WalksU prog w A I fp wr n Pt' St Mid where
  sub := W.sub
  frame := W.frame
  item := fun i s Q E hi st hQ => W.item i s Q E hi st fun T vals h' tk hP => hQ T vals h' tk (h _ _ hP)
  go := W.go
  apart := W.apart
  done := W.done
  self := W.self
section
variable {prog : Program} {w : World} {A : Around} {env : Env}
theorem enumTxt {x : PySem.Str} {t : Tok} {e it : Addr} (hei : e ≠ it) : ∃ (St : Nat → Heap → Prop) (Mid : Nat → Addr → Heap → Prop),
    (∀ (prog : Program) (w : World) (A' : Around), A'.handled = none → WalksU prog w A' e [e, it] [e, it] x.cps.size (fun i vals => ∃ t c u, x.cps[i]? = some c ∧ vals = #[.int (i : Nat) t, .str ⟨#[c]⟩ u]) St Mid) ∧
    (∀ i h, St i h → (∃ o, h.get? e = some o ∧ isIter o) ∧ ∃ o, h.get? it = some o ∧ isIter o) ∧ (∀ h : Heap, IsEnum h e it 0 .none → h.IsStrIter it (strIterType x) x t 0 → St 0 h) := by
  cases ha : x.cps.all (· < 128) with
  | false =>
    refine ⟨_, _, fun prog w A' hA => walksPt ((WalksT.enumerateD (Draws.strWide (prog := prog) (w := w) (A := A'.in1) hA it x t) e hei (by simpa using hei) (by simp)).toU) ?_, ?_, ?_⟩
    · rintro i v ⟨t, y, ⟨c, u, hc, rfl⟩, rfl⟩
      exact ⟨t, c, u, hc, rfl⟩
    · rintro i h ⟨⟨old, he⟩, o, ho, hc, hd⟩
      exact ⟨⟨_, he, .inl rfl, fun _ _ q => by cases q⟩, o, ho, .inr (.inl hc), fun _ _ q => by rw [hd] at q; cases q⟩
    · intro h he hi
      have : strIterType x = "str_iterator" := by unfold strIterType; rw [ha]; rfl
      rw [this] at hi
      exact ⟨⟨_, by simpa using he⟩, hi⟩
  | true =>
    refine ⟨_, _, fun prog w A' hA => walksPt ((WalksT.enumerateD (Draws.strAscii (prog := prog) (w := w) (A := A'.in1) hA it x t) e hei (by simpa using hei) (by simp)).toU) ?_, ?_, ?_⟩
    · rintro i v ⟨t, y, ⟨c, u, hc, rfl⟩, rfl⟩
      exact ⟨t, c, u, hc, rfl⟩
    · rintro i h ⟨⟨old, he⟩, o, ho, hc, hd⟩
      exact ⟨⟨_, he, .inl rfl, fun _ _ q => by cases q⟩, o, ho, .inr (.inr hc), fun _ _ q => by rw [hd] at q; cases q⟩
    · intro h he hi
      have : strIterType x = "str_ascii_iterator" := by unfold strIterType; rw [ha]; rfl
      rw [this] at hi
      exact ⟨⟨_, by simpa using he⟩, hi⟩
noncomputable def escEnd (C : Addr) (n : Nat) (s₀ s₁ : Shared) : Prop := n = 0 ∧ KeptG C s₀ s₁
noncomputable abbrev escR (C : Addr) : GenEnd := fun n s₀ r s₁ => r = .ok (.ret .none) ∧ escEnd C n s₀ s₁
structure Lk (env : Env) (h : Heap) (mg mb : PySem.Str → Option Value) : Prop where
  g : h.Ns env.globals mg
  miss : mg (PySem.Str.ofString "enumerate") = none
  b : h.Ns env.builtins mb
  has : mb (PySem.Str.ofString "enumerate") = some (.type "enumerate")
theorem seg_gen {x : PySem.Str} {t : Tok} {mg mb : PySem.Str → Option Value} {m : PySem.Str → Option Value} {s : Shared} (hh : A.handled = none)
    {a1 a2 a3 a4 a5 a6 b1 b2 b3 b4 c1 c2 c3 c4 c5 c6 c7 q1 q2 q3 p1 p2 p3 p4 p5 p6 p7 p8 p9 p10 p11 p12 p13 p14 p15 p16 p17 p18 p19 p20 p21 p22 p23 p24 : Pos} (G : GEnv env)
    (hen : env.kindOf (PySem.Str.ofString "enumerate") = some .globalImplicit) (hg : env.globals < env.locals) (hb : env.builtins < env.locals)
    (Z : Lk env s.heap mg mb) (hn : s.heap.Ns env.locals m) (hx : m (PySem.Str.ofString "addr") = some (.str x t)) (us : List (Nat × List Nat)) (hus : us = unitsF x.cps.toList 0 false) :
    Seg (model prog w) A (escR env.locals) (escProto env.locals us) us.length s (.func [.Assign [nm "pos" a1] (.Constant (.int 0) 0 a2) a3, .Assign [nm "escape" a4] (.Constant (.bool false) 0 a5) a6,
        .For (.Tuple [nm "pos" q1, nm "ch" q2] 0 q3) (.Call (nm "enumerate" b1) [nm "addr" b2] [] b3) [escIf p1 p2 p3 p4 p5 p6 p7 p8 p9 p10 p11 p12 p13 p14 p15 p16 p17 p18 p19 p20 p21 p22 p23 p24] [] b4,
        .If (nm "escape" c1) [.Expr (.Yield (some (.Tuple [nm "pos" c2, .Constant (.str (PySem.Str.ofString "\\")) 0 c3] 0 c4)) c5) c6] [] c7] env)
      ((model prog w).den (.func [.Assign [nm "pos" a1] (.Constant (.int 0) 0 a2) a3, .Assign [nm "escape" a4] (.Constant (.bool false) 0 a5) a6,
        .For (.Tuple [nm "pos" q1, nm "ch" q2] 0 q3) (.Call (nm "enumerate" b1) [nm "addr" b2] [] b3) [escIf p1 p2 p3 p4 p5 p6 p7 p8 p9 p10 p11 p12 p13 p14 p15 p16 p17 p18 p19 p20 p21 p22 p23 p24] [] b4,
        .If (nm "escape" c1) [.Expr (.Yield (some (.Tuple [nm "pos" c2, .Constant (.str (PySem.Str.ofString "\\")) 0 c3] 0 c4)) c5) c6] [] c7] env)) [] s := by
  refine seg_func ?_
  have n1 : (PySem.Str.ofString "pos" = PySem.Str.ofString "escape") = False := by decide
  have n2 : (PySem.Str.ofString "addr" = PySem.Str.ofString "escape") = False := by decide
  have n3 : (PySem.Str.ofString "addr" = PySem.Str.ofString "pos") = False := by decide
  refine seg_execs_cons (seg_wrap (wpAny_Assign_Name (wpAny_Constant_int (wpAny_storeName_local (s := { s with toks := s.toks + 1 }) G.pos hn (fun h₁ hn₁ hs₁ => ?_) G.hp))))
  refine seg_execs_cons (seg_wrap (assign_loc (s := { s with heap := h₁, toks := s.toks + 1 + 1 }) G.esc G.hp (v := .bool false) (fun Q' hQ' => wpAny_Constant_bool hQ') hn₁ (fun h₂ hn₂ hs₂ => ?_)))
  have keep₂ : ∀ b o, b ≠ env.locals → s.heap.get? b = some o → h₂.get? b = some o := fun b o hb e => hs₂.extBut b o hb (hs₁.extBut b o hb e)
  have Z₂ : Lk env h₂ mg mb := ⟨Z.g.at' fun o e => keep₂ _ o (Nat.ne_of_lt hg) e, Z.miss, Z.b.at' fun o e => keep₂ _ o (Nat.ne_of_lt hb) e, Z.has⟩
  refine seg_execs_cons ?_
  refine seg_For ?_
  refine PySem.Call_name1 rfl (Name_function_global G.kind hen (loadGlobal_builtin Z₂.g Z₂.miss Z₂.b Z₂.has ?_))
  refine PyProof.Rows.callWith_type rfl (Calls.evalArgs_plain (Calls.spliced_cons (name_loc G.kind G.addr hn₂ (v := .str x t) (by simp only [n2, n3, if_false]; exact hx) (Calls.spliced_nil ?_))))
  refine call_enumerate_str fun h₃ he hit hsz hk₃ => ?_
  obtain ⟨St, Mid, W, hlive, hst⟩ := enumTxt (x := x) (t := t) (Nat.succ_ne_self h₂.objs.size)
  have hst₃ : St 0 h₃ := hst h₃ he hit
  have hC : env.locals < h₂.objs.size := hn₂.lt
  refine (W prog w _ (by exact hh)).self 0 _ _ _ hst₃ fun p => ?_
  have hstart : StartOK env.locals [h₂.objs.size + 1, h₂.objs.size] s := fun b hb => by
    have hbs : h₂.objs.size ≤ b := by
      rcases List.mem_cons.mp hb with rfl | hb
      · exact Nat.le_succ _
      · exact Nat.le_of_eq (List.mem_singleton.mp hb).symm
    refine ⟨Nat.lt_of_lt_of_le hC hbs, fun o e => ?_⟩
    exact absurd (Heap.lt_size (keep₂ b o (Nat.ne_of_gt (Nat.lt_of_lt_of_le hC hbs)) e)) (Nat.not_lt.mpr hbs)
  have hlen : us.length = (unitsF (x.cps.toList.drop 0) 0 false).length := by rw [hus]; rfl
  rw [hlen]
  refine seg_forLoop (e := h₂.objs.size + 1) (it := h₂.objs.size) (us := us) (x := x) (St := St) (Mid := Mid) G ?ohh (fun A' hA => W prog w A' hA) ?ofs ?ofg (Nat.lt_succ_of_lt hC) hC hlive (fun esc s₀ s' m' pre hus' hn' hesc' hpos' hsince' hS' => ?_)
    x.cps.size 0 false s { s with heap := h₃, toks := _ } _ [] (by omega) (Nat.zero_le _) hst₃ (hn₂.at' fun o e => hk₃ _ o e) (by simp) (fun h => by cases h) ⟨h₃, _, rfl, fun b o hb _ e => hk₃ b o (keep₂ b o hb e)⟩ hstart (by rw [hus]; simp)
  case ohh => exact hh
  case ofs => rfl
  case ofg => rfl
  refine seg_execs_cons ?_
  refine seg_If ?_
  refine wpAny_isTrue_value (name_loc G.kind G.esc hn' hesc' (wpAny_truthy_bool ?_))
  have done : ∀ (s₁ s₂ : Shared), KeptG env.locals s₁ s₂ → Seg (model prog w) A (escR env.locals) (escProto env.locals us) 0 s₁ (.func [.Assign [nm "pos" a1] (.Constant (.int 0) 0 a2) a3, .Assign [nm "escape" a4] (.Constant (.bool false) 0 a5) a6,
        .For (.Tuple [nm "pos" q1, nm "ch" q2] 0 q3) (.Call (nm "enumerate" b1) [nm "addr" b2] [] b3) [escIf p1 p2 p3 p4 p5 p6 p7 p8 p9 p10 p11 p12 p13 p14 p15 p16 p17 p18 p19 p20 p21 p22 p23 p24] [] b4,
        .If (nm "escape" c1) [.Expr (.Yield (some (.Tuple [nm "pos" c2, .Constant (.str (PySem.Str.ofString "\\")) 0 c3] 0 c4)) c5) c6] [] c7] env) (.pure (.done (.ret .none))) [] s₂ := fun s₁ s₂ hk => seg_end (.ok (.ret .none)) ⟨rfl, rfl, hk⟩
  cases esc with
  | true =>
    rw [if_pos rfl]
    obtain ⟨tp, hp'⟩ := hpos' rfl
    have hu : unitsF [] x.cps.size true = [(x.cps.size - 1, [92])] := rfl
    rw [hu, List.length_singleton]
    rw [hu] at hus'
    refine seg_execs_cons ?_
    refine seg_pair (n := 0) G rfl rfl rfl hn' hp' (u := [92]) (by rw [hus']; simp) (keptOf hsince' hS') env.locals env.locals (Nat.le_refl _) (Nat.le_refl _) ?_ ?_ (fun A' Q E hQ => wpAny_Constant_str (hQ _ _)) rfl (fun s'' hal => ?_)
    · obtain ⟨oC, _, _, eC, _⟩ := id hn'
      exact ⟨_, eC, .inl rfl⟩
    · obtain ⟨oC, _, _, eC, _⟩ := id hn'
      exact ⟨_, eC, .inl rfl⟩
    · refine seg_execs_nil (seg_execs_nil ?_)
      exact done s'' s'' ⟨_, _, rfl, fun _ _ _ _ e => e⟩
  | false =>
    rw [if_neg Bool.false_ne_true]
    refine seg_execs_nil (seg_execs_nil ?_)
    exact done s₀ s' (keptOf hsince' hS')
end
end Mine
end
section
open PySem PySem.W PyProof.Rows PySem.Spec PySem.Calls Lean Meta Elab Tactic
set_option Elab.async false
set_option maxRecDepth 100000
set_option maxHeartbeats 2000000
namespace Mine
noncomputable abbrev gFd : FuncData := fnData 6 (.ref 41) (.str (PySem.Str.ofString "cpy313.email.utils") 240)
section
variable {w : World} {A : Around} {E : Value → Shared → Prop} {s : Shared} {h₀ : Heap} {L : Addr} {m : PySem.Str → Option Value} {news : List (Addr × Obj)} {mean : ExcName → Option Value} {mg mb : PySem.Str → Option Value}
/-- the generator stands ready: it has handed on all of us but the last n -/
noncomputable def EscAt (w : World) (A : Around) (C : Addr) (us : List (Nat × List Nat)) (n : Nat) (a g : Addr) (fp : List Addr) (h₀ : Heap) (s : Shared) : Prop :=
  s.heap.IsGen a g ∧ ∃ gs, s.gens[g]? = some gs ∧ ∀ s'' : Shared, (∀ b ∈ fp, ∀ o, s.heap.get? b = some o → s''.heap.get? b = some o) → (∀ b o, h₀.get? b = some o → s''.heap.get? b = some o) →
    gs.Goes (model PySem.Challenge.rw_wf0099_01.prog w) A.in1 (escR C) (escProto C us) n (.send .none) s''
theorem o42_data (P : Params) : (o42 P).data = .func gFd := rfl
theorem esc_call {x : PySem.Str} {t : Tok} {A' : Around} {Q : Value → Shared → Prop} (hh : A'.handled = none) (hroom : A.depth < recursionLimit)
    (F : Fr h₀ L s.heap m) (X : (KF w.params).In h₀) (N : News h₀ L s.heap news) (T : Top QV LO mean mg mb h₀)
    (h : ∀ C a g h' tk cde, Fr h₀ L h' m → L < C → C < a → (∀ p ∈ news, p.1 < C) → (∃ oC oa, News h₀ L h' ((C, oC) :: (a, oa) :: news)) →
      EscAt w A' C (unitsF x.cps.toList 0 false) (unitsF x.cps.toList 0 false).length a g [C] h₀ { s with heap := h', toks := tk, gens := s.gens.push (.fresh cde) } → g = s.gens.size →
      Q (.ref a) { s with heap := h', toks := tk, gens := s.gens.push (.fresh cde) }) :
    wpAny (model PySem.Challenge.rw_wf0099_01.prog w) A (call (.ref 42) [.str x t]) Q E s := by
  revert X
  k_fill
  intro X
  have ho : s.heap.get? 42 = some (o42 w.params) := inK X F (by k_is)
  have hg : (KF w.params).lookup 41 = some (o41 w.params) := by k_is
  have hcd : s.heap.CodeRec (.ref 41) (PySem.Str.ofString "_iter_escaped_chars") := codeRec_of (X.keeps F.keep) (by k_is)
  refine wpAny_call ?_
  refine codeAny_call_generator (fd := gFd) hroom ho (o42_data _) rfl rfl rfl hcd ?_
  refine BindsTo.of_eq (binds := [(PySem.Str.ofString "addr", .str x t)]) rfl _ _ _ _ ?_
  refine wpAny_newFunctionEnv (by decide) (by intro y hy; simp only [List.mem_singleton] at hy; subst hy; rfl) (fun h₁ hns hsb => ⟨?_, ?_⟩) rfl
  · exact (T.nolimit.keeps F.keep).fresh _ hsb
  have keep₁ : ∀ b o, s.heap.get? b = some o → h₁.get? b = some o := fun b o e => hsb.extBut b o (Nat.ne_of_lt (Heap.lt_size e)) (Heap.get?_push_of_some _ e)
  have keep₂ : ∀ (ob : Obj) b o, s.heap.get? b = some o → (h₁.push ob).get? b = some o := fun ob b o e => Heap.get?_push_of_some _ (keep₁ b o e)
  have hLs : L < s.heap.objs.size := F.ns.lt
  have hCh : s.heap.objs.size < h₁.objs.size := hns.lt
  have fresh₀ : ∀ a, s.heap.objs.size ≤ a → h₀.get? a = none := fun a ha => by
    cases e : h₀.get? a with
    | none => rfl
    | some o' => exact absurd (Heap.lt_size (F.keep a o' e)) (Nat.not_lt.mpr ha)
  obtain ⟨oC, esC, epC, eC, dC, rC⟩ := id hns
  have fin : ∀ (ob : Obj) (n1 n2 : Value) (tk : Nat) (cde : Code), ob.cls = .type "generator" → ob.data = .fields #[.int (s.gens.size : Nat) 0, n1, n2] → ob.slots = #[] → ob.isFreed = false →
      (∀ s'' : Shared, (∀ b ∈ [s.heap.objs.size], ∀ o, (h₁.push ob).get? b = some o → s''.heap.get? b = some o) → (∀ b o, h₀.get? b = some o → s''.heap.get? b = some o) →
        (GenState.fresh cde).Goes (model PySem.Challenge.rw_wf0099_01.prog w) A'.in1 (escR s.heap.objs.size) (escProto s.heap.objs.size (unitsF x.cps.toList 0 false)) (unitsF x.cps.toList 0 false).length (.send .none) s'') →
      Q (.ref h₁.objs.size) { s with heap := h₁.push ob, toks := tk, gens := s.gens.push (.fresh cde) } := fun ob n1 n2 tk cde c1 c2 c3 c4 hgo =>
    h s.heap.objs.size h₁.objs.size s.gens.size _ _ _ (F.keeps (keep₂ _)) hLs hCh (fun p hp => Heap.lt_size (N p hp).1) ⟨oC, ob, fun p hp => by
      rcases List.mem_cons.mp hp with rfl | hp
      · exact ⟨Heap.get?_push_of_some _ eC, Nat.ne_of_gt hLs, fresh₀ _ (Nat.le_refl _)⟩
      · rcases List.mem_cons.mp hp with rfl | hp
        · exact ⟨Heap.get?_push_size _ c4, Nat.ne_of_gt (Nat.lt_trans hLs hCh), fresh₀ _ (Nat.le_of_lt hCh)⟩
        · exact ⟨keep₂ _ _ _ (N p hp).1, (N p hp).2⟩⟩
      ⟨⟨_, _, _, Heap.get?_push_size _ c4, c1, c2, c3⟩, _, Array.getElem?_push_size, hgo⟩ rfl
  show Q (.ref h₁.objs.size) _
  refine fin _ _ _ _ _ rfl rfl rfl rfl (fun s'' hC hB => ?_)
  refine ⟨rfl, ?_⟩
  have hLt : h₀.objs.size ≤ s.heap.objs.size := Nat.le_trans F.above (Nat.le_of_lt hLs)
  refine seg_gen (env := newEnv gFd.scope s.heap.objs.size gFd.globals gFd.closure (gFd.qualname ++ PySem.Str.ofString ".<locals>.") (some 42) gFd.code none gFd.builtins) (x := x) (t := t) (mg := mg) (mb := mb) (A := A'.in1) (m := fun y => [(PySem.Str.ofString "addr", Value.str x t)].reverse.lookup y) hh ?_ ?_ ?_ ?_ ⟨?_, ?_, ?_, ?_⟩ ?_ ?_ _ rfl
  · exact ⟨rfl, rfl, rfl, rfl, rfl, rfl, rfl, rfl⟩
  · rfl
  · show mainGlobals < s.heap.objs.size
    exact Nat.lt_of_lt_of_le T.g.lt hLt
  · show builtinsNs < s.heap.objs.size
    exact Nat.lt_of_lt_of_le T.b.lt hLt
  · exact T.g.keeps hB
  · exact ns_none_of X T.g (by k_is)
  · exact T.b.keeps hB
  · exact (T.builtins _ (by decide)).trans boot_enumerate
  · exact hns.at' fun o e => hC _ (List.mem_singleton.mpr rfl) _ (Heap.get?_push_of_some _ e)
  · rfl
/-- one more pair, or the end -/
theorem esc_next {C : Addr} {us : List (Nat × List Nat)} {n : Nat} {a g : Addr} {gs : GenState} {Q : Option Value → Shared → Prop} (hh : A.handled = none) (hl : s.heap.NoLimit) (hroom : A.depth < recursionLimit)
    (hg : s.heap.IsGen a g) (hgs : s.gens[g]? = some gs) (hgo : gs.Goes (model PySem.Challenge.rw_wf0099_01.prog w) A.in1 (escR C) (escProto C us) n (.send .none) (s.setGen g .running))
    (hY : ∀ k p u T t1 t2 h' tk gs' e it oC oe oi, n = k + 1 → us[us.length - 1 - k]? = some (p, u) → h'.get? T = some (tupO #[.int (p : Nat) t1, .str ⟨u.toArray⟩ t2]) → C < T →
      (∀ b o, b ≠ C → (isIter o → b < C) → s.heap.get? b = some o → h'.get? b = some o) → C ≤ e → C ≤ it → h'.get? C = some oC → h'.get? e = some oe → h'.get? it = some oi → (e = C ∨ isIter oe) → (it = C ∨ isIter oi) →
      (∀ s'' : Shared, (∀ b ∈ [C, e, it], ∀ o, h'.get? b = some o → s''.heap.get? b = some o) → gs'.Goes (model PySem.Challenge.rw_wf0099_01.prog w) A.in1 (escR C) (escProto C us) k (.send .none) s'') →
      Q (some (.ref T)) { s with heap := h', toks := tk, gens := ((s.setGen g .running).setGen g gs').gens })
    (hP : n = 0 → ∀ h' tk, (∀ b o, b ≠ C → (isIter o → b < C) → s.heap.get? b = some o → h'.get? b = some o) → Q none { s with heap := h', toks := tk, gens := ((s.setGen g .running).setGen g .finished).gens }) :
    wpAny (model PySem.Challenge.rw_wf0099_01.prog w) A (pyNext (.ref a)) Q E s := by
  refine wpAny_pyNext_gen (P := escEnd C) hh hl hroom hg hgs hgo (fun v s₁ gs' hv => ?_) (fun s₁ hp h' hk => ?_)
  · cases n with
    | zero =>
      obtain ⟨_, _, _, _, _, _, _, _, _, _, _, _, _, _, hkap⟩ := hv
      exact False.elim (hkap s₁ fun _ _ _ e => e)
    | succ k =>
      obtain ⟨⟨p, u, T, t1, t2, hu, rfl, hT, hCT⟩, ⟨h', tk, rfl, hk⟩, e, it, oC, oe, oi, h1, h2, e1, e2, e3, x1, x2, hkap⟩ := hv
      exact hY k p u T t1 t2 h' tk gs' e it oC oe oi rfl hu hT hCT hk h1 h2 e1 e2 e3 x1 x2 hkap
  · obtain ⟨h0, h₁, tk, rfl, hk₁⟩ := hp
    exact hP h0 h' tk fun b o hb hi e => hk b o (hk₁ b o hb hi e)
end
end Mine
end
section
open PySem PySem.W PyProof.Rows PySem.Spec PySem.Calls Lean Meta Elab Tactic
set_option Elab.async false
set_option maxRecDepth 100000
set_option maxHeartbeats 2000000
namespace Mine
theorem isGen_not {h : Heap} {a g : Nat} {o : Obj} (x : h.IsGen a g) (e : h.get? a = some o) : ¬ isIter o := by
  obtain ⟨o', _, _, e', hc, _⟩ := x
  rw [e] at e'; cases e'
  intro hi
  rcases hi.1 with q | q | q <;> (rw [hc] at q; exact absurd q (by decide))
theorem genOnly_bare {g : Nat} {a b : Array GenState} (x : GenOnly g a b) (hg : ∀ y, b[g]? = some y → y.bare = true) (ha : ∀ k y, k ≠ g → a[k]? = some y → y.bare = true) : AllBare b := by
  intro y hy
  obtain ⟨k, hk, rfl⟩ := Array.getElem_of_mem hy
  by_cases e : k = g
  · exact hg _ (by rw [← e]; exact Array.getElem?_eq_getElem hk)
  · exact ha k _ e (by rw [← x.2 k e]; exact Array.getElem?_eq_getElem hk)
noncomputable def TurnG (s : Shared) (gs : Array GenState) (h₀ : Heap) (L C : Addr) (tail : List (Addr × Obj)) (J : (PySem.Str → Option Value) → List (Addr × Obj) → Prop) (f : Flow) (s₃ : Shared) : Prop :=
  (f = .next ∨ f = .cont) ∧ ∃ h' tk m' mine', s₃ = { s with heap := h', toks := tk, gens := gs } ∧ Fr h₀ L h' m' ∧ News h₀ L h' (mine' ++ tail) ∧ (∀ p ∈ mine', p.1 < C) ∧ J m' mine'
section
variable {w : World} {A : Around} {s : Shared} {h₀ : Heap} {m : PySem.Str → Option Value} {mine : List (Addr × Obj)} {mean : ExcName → Option Value} {mg mb : PySem.Str → Option Value} {env : Env}
inductive JE (w : World) (A : Around) (h₀ : Heap) (L C a g : Addr) (us : List (Nat × List Nat)) (s : Shared) (J : List (Nat × List Nat) → (PySem.Str → Option Value) → List (Addr × Obj) → Prop) (k : Nat) (s' : Shared) : Prop
  | mk (done rest : List (Nat × List Nat)) (h' : Heap) (tk : Nat) (gs : Array GenState) (m' : PySem.Str → Option Value) (mine' : List (Addr × Obj)) (e it : Addr) (oC oa oe oi : Obj) (gst : GenState) : s' = { s with heap := h', toks := tk, gens := gs } → us = done ++ rest → k = rest.length + 1 → Fr h₀ L h' m' →
      News h₀ L h' (mine' ++ [(C, oC), (a, oa), (e, oe), (it, oi)]) → C ≤ e → C ≤ it → (∀ p ∈ mine', p.1 < C) → J done m' mine' → h'.IsGen a g → gs[g]? = some gst → GenOnly g s.gens gs →
      (∀ s'' : Shared, (∀ b ∈ [C, e, it], ∀ o, h'.get? b = some o → s''.heap.get? b = some o) → (∀ b o, h₀.get? b = some o → s''.heap.get? b = some o) →
        gst.Goes (model PySem.Challenge.rw_wf0099_01.prog w) A.in1 (escR C) (escProto C us) rest.length (.send .none) s'') → JE w A h₀ L C a g us s J k s'
theorem loop_esc {target : PySem.Expr} {body : List Stmt} {R : Result → Shared → Prop} {us : List (Nat × List Nat)} {C a g : Nat} (hh : A.handled = none) (hroom : A.depth < recursionLimit) (T : Top QV LO mean mg mb h₀)
    (F : Fr h₀ env.locals s.heap m) (hn : ∃ oC oa, News h₀ env.locals s.heap ((C, oC) :: (a, oa) :: mine)) (hLC : env.locals < C) (hCa : C < a) (hmine : ∀ p ∈ mine, p.1 < C) (EA : EscAt w A C us us.length a g [C] h₀ s)
    (J : List (Nat × List Nat) → (PySem.Str → Option Value) → List (Addr × Obj) → Prop) (h0 : J [] m mine)
    (step : ∀ done u rest m₁ mine₁ T t1 t2 h₁ tk₁ gs₁ e it oC oa oe oi, us = done ++ u :: rest → J done m₁ mine₁ → (∀ p ∈ mine₁, p.1 < C) → C < T → C ≤ e → C ≤ it → Fr h₀ env.locals h₁ m₁ →
      News h₀ env.locals h₁ (mine₁ ++ [(T, tupO #[.int (u.1 : Nat) t1, .str ⟨u.2.toArray⟩ t2]), (C, oC), (a, oa), (e, oe), (it, oi)]) → (∃ x y, oa.cls = .type "generator" ∧ oa.data = .fields #[.int (g : Nat) 0, x, y]) →
      wpAny (model PySem.Challenge.rw_wf0099_01.prog w) A (letOwnedTupleGo target (.ref a) (.ref T)) (fun _ s₁' => wpAny (model PySem.Challenge.rw_wf0099_01.prog w) A (assign target env (.ref T)) (fun _ s₂ => wpAny (model PySem.Challenge.rw_wf0099_01.prog w) A (execs body env)
        (TurnG s gs₁ h₀ env.locals C [(C, oC), (a, oa), (e, oe), (it, oi)] (J (done ++ [u]))) (notedBy (model PySem.Challenge.rw_wf0099_01.prog w) A env fun e s' => R (.error e) s') s₂) (notedBy (model PySem.Challenge.rw_wf0099_01.prog w) A env fun e s' => R (.error e) s') s₁') (notedBy (model PySem.Challenge.rw_wf0099_01.prog w) A env fun e s' => R (.error e) s') { s with heap := h₁, toks := tk₁, gens := gs₁ })
    (hR : ∀ h' tk m' mine' gs', Fr h₀ env.locals h' m' → News h₀ env.locals h' mine' → J us m' mine' → ((∀ k y, k ≠ g → s.gens[k]? = some y → y.bare = true) → AllBare gs') → R (.ok .next) { s with heap := h', toks := tk, gens := gs' }) :
    codeAny (model PySem.Challenge.rw_wf0099_01.prog w) A (.forLoop target (.ref a) body [] env) R s := by
  obtain ⟨oC, oa, N⟩ := hn
  obtain ⟨hgen, gst, hgst, hgo⟩ := EA
  refine codeAny_forLoop_any
    (fun k s' => JE w A h₀ env.locals C a g us s J k s') ?_ (us.length + 1)
    ⟨[], us, s.heap, s.toks, s.gens, m, mine, C, C, oC, oa, oC, oC, gst, rfl, rfl, rfl, F, fun p hp => ?_, Nat.le_refl _, Nat.le_refl _, hmine, h0, hgen, hgst, ⟨rfl, fun _ _ => rfl⟩, fun s'' hk hb => hgo s'' (fun b hb' => hk b (by rw [List.mem_singleton.mp hb']; exact .head _)) hb⟩
  · rintro k s' ⟨done, rest, h', tk, gs, m', mine', e, it, oC, oa, oe, oi, gst, rfl, hus, rfl, F', N', he, hi, hmine', hJ, hgen', hgst', hgo', hG⟩
    have hLt : ∀ b o, b < C → h'.get? b = some o → b ≠ C ∧ (isIter o → b < C) := fun b o hb _ => ⟨Nat.ne_of_lt hb, fun _ => hb⟩
    have eA : h'.get? a = some oa := (N' (a, oa) (by simp)).1
    refine esc_next hh (T.nolimit.keeps F'.keep) hroom hgen' hgst' (hG _ (fun _ _ _ x => x) F'.keep) (fun k p u T₁ t1 t2 h₁ tk₁ gs' e' it' oC' oe' oi' hk hu hT hCT hkept he' hi' eC' ee' ei' _ _ hgo₁ => ?_) (fun hz h₁ tk₁ hkept => ?_)
    · have F₁ : Fr h₀ env.locals h₁ m' := ⟨F'.ns.at' fun o x => hkept _ o (Nat.ne_of_lt hLC) (fun _ => hLC) x, fun b o x => by
        have hb : b < C := Nat.lt_trans (Nat.lt_of_lt_of_le (Heap.lt_size x) F'.above) hLC
        exact hkept b o (Nat.ne_of_lt hb) (fun _ => hb) (F'.keep b o x), F'.above⟩
      have fresh : ∀ b, C ≤ b → env.locals ≠ b ∧ h₀.get? b = none := fun b hb => ⟨Nat.ne_of_lt (Nat.lt_of_lt_of_le hLC hb), by
        cases x : h₀.get? b with
        | none => rfl
        | some o => exact absurd (Nat.lt_trans (Nat.lt_of_lt_of_le (Heap.lt_size x) F'.above) hLC) (Nat.not_lt.mpr hb)⟩
      obtain ⟨rest', hr⟩ : ∃ rest', rest = (p, u) :: rest' := by
        cases rest with
        | nil => simp at hk
        | cons x r =>
          refine ⟨r, ?_⟩
          rw [hus] at hu
          have hk' : r.length = k := by simpa using hk
          have : (done ++ x :: r)[(done ++ x :: r).length - 1 - k]? = some x := by
            rw [← hk']
            simp
          rw [this] at hu
          rw [Option.some.inj hu]
      subst hr
      have hk' : rest'.length = k := by simpa using hk
      subst hk'
      have N₁ : News h₀ env.locals h₁ (mine' ++ [(T₁, tupO #[.int (p : Nat) t1, .str ⟨u.toArray⟩ t2]), (C, oC'), (a, oa), (e', oe'), (it', oi')]) := by
        intro q hq
        rcases List.mem_append.mp hq with hq | hq
        · have z := N' q (List.mem_append_left _ hq)
          exact ⟨hkept _ _ (Nat.ne_of_lt (hmine' q hq)) (fun _ => hmine' q hq) z.1, z.2⟩
        · simp only [List.mem_cons, List.not_mem_nil, or_false] at hq
          rcases hq with rfl | rfl | rfl | rfl | rfl
          · exact ⟨hT, (fresh _ (Nat.le_of_lt hCT)).1.symm, (fresh _ (Nat.le_of_lt hCT)).2⟩
          · exact ⟨eC', (fresh _ (Nat.le_refl _)).1.symm, (fresh _ (Nat.le_refl _)).2⟩
          · exact ⟨hkept _ _ (Nat.ne_of_gt hCa) (fun q => absurd q (isGen_not hgen' eA)) eA, (fresh _ (Nat.le_of_lt hCa)).1.symm, (fresh _ (Nat.le_of_lt hCa)).2⟩
          · exact ⟨ee', (fresh _ he').1.symm, (fresh _ he').2⟩
          · exact ⟨ei', (fresh _ hi').1.symm, (fresh _ hi').2⟩
      have hoa : ∃ x y, oa.cls = .type "generator" ∧ oa.data = .fields #[.int (g : Nat) 0, x, y] := by
        obtain ⟨o, x, y, q, hc, hd, _⟩ := id hgen'
        rw [eA] at q; cases q
        exact ⟨x, y, hc, hd⟩
      refine wpAny_mono (step done (p, u) rest' m' mine' T₁ t1 t2 h₁ tk₁ _ e' it' oC' oa oe' oi' hus hJ hmine' hCT he' hi' F₁ N₁ hoa) (fun _ s₁ q₁ => wpAny_mono q₁ (fun _ s₂ q₂ => wpAny_mono q₂ (fun f s₃ q₃ => ?_) fun _ _ e => e) fun _ _ e => e) fun _ _ e => e
      obtain ⟨hf, h₃, tk₃, m₃, mine₃, rfl, F₃, N₃, hm₃, hJ₃⟩ := q₃
      have hgs : ((({ s with heap := h', toks := tk, gens := gs } : Shared).setGen g .running).setGen g gs').gens[g]? = some gs' := setGen_self (gs := .running) (setGen_self hgst')
      have hgen₃ : h₃.IsGen a g := by
        obtain ⟨o, x, y, q, hc, hd, hsl⟩ := id hgen'
        rw [eA] at q; cases q
        exact ⟨oa, x, y, (N₃ (a, oa) (by simp)).1, hc, hd, hsl⟩
      have hG₃ : ∀ s'' : Shared, (∀ b ∈ [C, e', it'], ∀ o, h₃.get? b = some o → s''.heap.get? b = some o) → (∀ b o, h₀.get? b = some o → s''.heap.get? b = some o) →
            gs'.Goes (model PySem.Challenge.rw_wf0099_01.prog w) A.in1 (escR C) (escProto C us) rest'.length (.send .none) s'' := fun s'' hk₃ _ => hgo₁ s'' fun b hb o x => by
        simp only [List.mem_cons, List.not_mem_nil, or_false] at hb
        rcases hb with rfl | rfl | rfl
        · rw [eC'] at x; cases x
          exact hk₃ _ (by simp) _ (N₃ (_, oC') (by simp)).1
        · rw [ee'] at x; cases x
          exact hk₃ _ (by simp) _ (N₃ (_, oe') (by simp)).1
        · rw [ei'] at x; cases x
          exact hk₃ _ (by simp) _ (N₃ (_, oi') (by simp)).1
      have hO := ((hgo'.trans (GenOnly.setGen ({ s with heap := h', toks := tk, gens := gs } : Shared) g .running)).trans (GenOnly.setGen _ g gs'))
      have hus' : us = (done ++ [(p, u)]) ++ rest' := by rw [hus]; simp
      rcases hf with rfl | rfl
      · exact ⟨rest'.length + 1, Nat.lt_succ_self _, done ++ [(p, u)], rest', h₃, tk₃, _, m₃, mine₃, e', it', oC', oa, oe', oi', gs', rfl, hus', rfl, F₃, N₃, he', hi', hm₃, hJ₃, hgen₃, hgs, hO, hG₃⟩
      · exact ⟨rest'.length + 1, Nat.lt_succ_self _, done ++ [(p, u)], rest', h₃, tk₃, _, m₃, mine₃, e', it', oC', oa, oe', oi', gs', rfl, hus', rfl, F₃, N₃, he', hi', hm₃, hJ₃, hgen₃, hgs, hO, hG₃⟩
    · have hr : rest = [] := List.eq_nil_of_length_eq_zero hz
      subst hr
      have F₁ : Fr h₀ env.locals h₁ m' := ⟨F'.ns.at' fun o x => hkept _ o (Nat.ne_of_lt hLC) (fun _ => hLC) x, fun b o x => by
        have hb : b < C := Nat.lt_trans (Nat.lt_of_lt_of_le (Heap.lt_size x) F'.above) hLC
        exact hkept b o (Nat.ne_of_lt hb) (fun _ => hb) (F'.keep b o x), F'.above⟩
      rw [List.append_nil] at hus
      subst hus
      refine wpAny_execs_nil (hR h₁ tk₁ m' mine' _ F₁ (fun q hq => ?_) hJ (fun hb => ?_))
      · have z := N' q (List.mem_append_left _ hq)
        exact ⟨hkept _ _ (Nat.ne_of_lt (hmine' q hq)) (fun _ => hmine' q hq) z.1, z.2⟩
      · refine genOnly_bare ((hgo'.trans (GenOnly.setGen _ g .running)).trans (GenOnly.setGen _ g .finished)) (fun y hy => ?_) hb
        rw [setGen_self (gs := .running) (setGen_self hgst')] at hy
        cases hy; rfl
  · rcases List.mem_append.mp hp with hp | hp
    · exact N p (.tail _ (.tail _ hp))
    · simp only [List.mem_cons, List.not_mem_nil, or_false] at hp
      rcases hp with rfl | rfl | rfl | rfl
      · exact N _ (.head _)
      · exact N _ (.tail _ (.head _))
      · exact N _ (.head _)
      · exact N _ (.head _)
end
end Mine
end
section
open PySem PySem.W PyProof.Rows PySem.Spec PySem.Calls Lean Meta Elab Tactic
set_option Elab.async false
set_option maxRecDepth 100000
set_option maxHeartbeats 2000000
namespace Mine
open PyProof.Rows.LCg PyProof.Rows.LCt
/-- like Cl, of a call that makes generators -/
noncomputable abbrev ClG (w : World) (mean : ExcName → Option Value) (mg mb : PySem.Str → Option Value) (f : Addr) (dd : Nat) (vs : List Value) (Pre : List (Addr × Obj) → Prop) (Out : List (Addr × Obj) → List (Addr × Obj) → Value → Prop) : Prop :=
  ∀ (dp un : Nat) (gd : Option (List Code)) (cn : PySem.Str) (cs : Scope) (a : Addr) (ccd : Value) (cl : List (PySem.Str × Addr)) (outer : List Env) (A₀ : Around) (base h₀ : Heap) (L : Addr) (m : PySem.Str → Option Value) (news : List (Addr × Obj)) (s : Shared)
    (Q E : Value → Shared → Prop),
    Below A₀ base outer h₀ → Fr h₀ L s.heap m → (KF w.params).In h₀ → News h₀ L s.heap news → Top QV LO mean mg mb h₀ → cs.kind = .function → dp + dd < recursionLimit → un + 8 * dd < cLine → Pre news →
    (∀ r tl h' tk' gs', Fr h₀ L h' m → News h₀ L h' (tl ++ news) → (∀ q ∈ news, ∀ p ∈ tl, q.1 ≠ p.1) → Out news tl r → (AllBare s.gens → AllBare gs') → Q r { s with heap := h', toks := tk', gens := gs' }) →
    wpAny (model PySem.Challenge.rw_wf0099_01.prog w) (ktrTop dp un gd cn cs L a ccd cl outer) (call (.ref f) vs) Q E s
theorem own_leaveG {h₀ g' h' : Heap} {L L' : Addr} {m m' : PySem.Str → Option Value} {news l1 l2 : List (Addr × Obj)} {s : Shared} {Q : Value → Shared → Prop} {Out : List (Addr × Obj) → List (Addr × Obj) → Value → Prop} {r : Value} {tk : Nat} {gs : Array GenState}
    (hret : ∀ r tl h' tk' gs', Fr h₀ L h' m → News h₀ L h' (tl ++ news) → (∀ q ∈ news, ∀ p ∈ tl, q.1 ≠ p.1) → Out news tl r → (AllBare s.gens → AllBare gs') → Q r { s with heap := h', toks := tk', gens := gs' })
    (HN : Hid (News h₀ L s.heap news)) (HG : Hid (GSub s.heap g' [])) (kF : Fr h₀ L h' m) (kN : News h₀ L h' l2) (gF : Fr g' L' h' m') (gN : News g' L' h' l1) (tl : List (Addr × Obj))
    (m1 : ∀ p ∈ tl, p ∈ l1) (m2 : ∀ p ∈ tl, p ∈ l2) (out : Out news tl r) (hb : AllBare s.gens → AllBare gs) : Q r { s with heap := h', toks := tk, gens := gs } :=
  hret r tl h' tk gs kF (leave_news HN.out HG.out gF fun p hp => kN p (m2 p hp)) (leave_apart HN.out HG.out gN m1) out hb
noncomputable def stepS (z : PySem.Str) (st : Nat × Option Nat × List PySem.Str) (u : Nat × List Nat) : Nat × Option Nat × List PySem.Str :=
  if u.2 = [34] then
    match st.2.1 with
    | none => (st.1, some u.1, st.2.2)
    | some o => (u.1 + 1, none, if st.1 = o then st.2.2 else st.2.2 ++ [Txt.slice z (some (st.1 : Int)) (some (o : Int))])
  else st
noncomputable def foldS (z : PySem.Str) (us : List (Nat × List Nat)) : Nat × Option Nat × List PySem.Str := us.foldl (stepS z) (0, none, [])
noncomputable def quoteS : PySem.Str := PySem.Str.ofString "\""
noncomputable def endS (z : PySem.Str) (st : Nat × Option Nat × List PySem.Str) : PySem.Str :=
  Txt.join (PySem.Str.ofString "") (if (st.1 : Int) < (z.length : Int) then st.2.2 ++ [Txt.slice z (some (st.1 : Int)) none] else st.2.2)
noncomputable def stripF (z : PySem.Str) : PySem.Str := if (Builtin.Str.occurrences z (PySem.Str.ofString "\"") 0 z.length 1).isEmpty = true then z else endS z (foldS z (unitsF z.cps.toList 0 false))
noncomputable abbrev TxtOut (y : PySem.Str) (_ tl : List (Addr × Obj)) (v : Value) : Prop := (∃ t, v = .str y t) ∧ tl = []
theorem esc_callA {w : World} {A : Around} {E : Value → Shared → Prop} {s : Shared} {h₀ : Heap} {L : Addr} {m : PySem.Str → Option Value} {news : List (Addr × Obj)} {mean : ExcName → Option Value} {mg mb : PySem.Str → Option Value} {x : PySem.Str} {t : Tok} {Q : Value → Shared → Prop} (hh : A.handled = none) (hroom : A.depth < recursionLimit)
    (F : Fr h₀ L s.heap m) (X : (KF w.params).In h₀) (N : News h₀ L s.heap news) (T : Top QV LO mean mg mb h₀)
    (h : ∀ C a g h' tk cde, Fr h₀ L h' m → L < C → C < a → (∀ p ∈ news, p.1 < C) → (∃ oC oa, News h₀ L h' ((C, oC) :: (a, oa) :: news)) →
      EscAt w A C (unitsF x.cps.toList 0 false) (unitsF x.cps.toList 0 false).length a g [C] h₀ { s with heap := h', toks := tk, gens := s.gens.push (.fresh cde) } → g = s.gens.size →
      Q (.ref a) { s with heap := h', toks := tk, gens := s.gens.push (.fresh cde) }) :
    wpAny (model PySem.Challenge.rw_wf0099_01.prog w) A (call (.ref 42) [.str x t]) Q E s := esc_call hh hroom F X N T h
theorem rowW80 : True := by
  k_with_none
  trivial
theorem rowW8T : True := by
  k_with "own tup" => first | assumption | exact List.Mem.head _ | (refine List.Mem.tail _ ?_; k_extra "own tup")
  trivial
theorem rowW81 : True := by
  k_with "exec For" => k_here; k_dflt (refine wpAny_For ?_)
  trivial
theorem rowW82 : True := by
  k_with "call ref" => k_here; (with_reducible show wpAny _ _ (call (Value.ref 42) _) _ _ _); k_dflt (refine' esc_callA (by exact rfl) (by ktr_room) (by k_asm) (by k_asm) (by k_asm) (by k_asm) ?_); refine Hid.out ?_
  trivial
theorem strip_none {z : PySem.Str} (h : (Builtin.Str.occurrences z (PySem.Str.ofString "\"") 0 z.length 1).isEmpty = true) : stripF z = z := by unfold stripF; rw [if_pos h]
theorem strip_some {z : PySem.Str} (h : (Builtin.Str.occurrences z (PySem.Str.ofString "\"") 0 z.length 1).isEmpty = false) : stripF z = endS z (foldS z (unitsF z.cps.toList 0 false)) := by unfold stripF; rw [if_neg (by rw [h]; exact Bool.false_ne_true)]
theorem end_more {z : PySem.Str} (h : (Builtin.Str.occurrences z (PySem.Str.ofString "\"") 0 z.length 1).isEmpty = false) (h' : ((foldS z (unitsF z.cps.toList 0 false)).1 : Int) < (z.length : Int)) : stripF z = Txt.join (PySem.Str.ofString "") ((foldS z (unitsF z.cps.toList 0 false)).2.2 ++ [Txt.slice z (some ((foldS z (unitsF z.cps.toList 0 false)).1 : Int)) none]) := by
  rw [strip_some h]; unfold endS; rw [if_pos h']
theorem end_less {z : PySem.Str} (h : (Builtin.Str.occurrences z (PySem.Str.ofString "\"") 0 z.length 1).isEmpty = false) (h' : ¬ ((foldS z (unitsF z.cps.toList 0 false)).1 : Int) < (z.length : Int)) : stripF z = Txt.join (PySem.Str.ofString "") ((foldS z (unitsF z.cps.toList 0 false)).2.2) := by
  rw [strip_some h]; unfold endS; rw [if_neg h']
theorem go_gen {prog : Program} {w : World} {A : Around} {E : Value → Shared → Prop} {s : Shared} {elts : List PySem.Expr} {k : Nat} {p : Pos} {a T : Addr} {oa : Obj} {Q : Unit → Shared → Prop} (e : s.heap.get? a = some oa) (h : ∃ g x y, oa.cls = .type "generator" ∧ oa.data = .fields #[.int g 0, x, y]) (hq : Q () s) :
    wpAny (model prog w) A (letOwnedTupleGo (.Tuple elts k p) (.ref a) (.ref T)) Q E s := by
  obtain ⟨g, x, y, hc, hd⟩ := h
  unfold letOwnedTupleGo
  refine wpAny_bind (wpAny_load e ?_)
  rw [hc, hd]
  show wpAny _ _ (if (["enumerate", "zip", "dict_itemiterator", "dict_reverseitemiterator", "odict_iterator", "itertools.zip_longest", "itertools.pairwise"].contains "generator" && _) = true then _ else _) _ _ _
  rw [if_neg (by simp)]
  exact wpAny_pure hq
noncomputable def OpenIs : Option Nat → Value → Prop
  | none, v => v = .none
  | some o, v => ∃ t, v = .int (o : Nat) t
inductive JS (z : PySem.Str) (tz : Tok) (R : Addr) (done : List (Nat × List Nat)) (m' : PySem.Str → Option Value) (mine : List (Addr × Obj)) : Prop
  | mk (ys : List Value) (ts : Tok) (vo : Value) : mine = [(R, lst ys)] → StrsAre ys (foldS z done).2.2 → OpenIs (foldS z done).2.1 vo → m' (PySem.Str.ofString "addr") = some (.str z tz) → m' (PySem.Str.ofString "result") = some (.ref R) →
    m' (PySem.Str.ofString "open_pos") = some vo → m' (PySem.Str.ofString "start") = some (.int ((foldS z done).1 : Nat) ts) → JS z tz R done m' mine
theorem quote_iff {u : List Nat} : ((⟨u.toArray⟩ : PySem.Str) == PySem.Str.ofString "\"") = true ↔ u = [34] := by
  rw [beq_iff_eq]
  constructor
  · intro h
    have h' : u.toArray.toList = [34] := congrArg (fun x : PySem.Str => x.cps.toList) h
    simpa using h'
  · rintro rfl; rfl
theorem foldS_snoc {z : PySem.Str} {done : List (Nat × List Nat)} {u : Nat × List Nat} : foldS z (done ++ [u]) = stepS z (foldS z done) u := by simp [foldS, List.foldl_append]
theorem fold_no {z : PySem.Str} {done : List (Nat × List Nat)} {p : Nat} {u : List Nat} (h : ((⟨u.toArray⟩ : PySem.Str) == PySem.Str.ofString "\"") = false) : foldS z (done ++ [(p, u)]) = foldS z done := by
  rw [foldS_snoc]; unfold stepS
  rw [if_neg (fun q => by rw [quote_iff.mpr q] at h; cases h)]
theorem fold_open {z : PySem.Str} {done : List (Nat × List Nat)} {p : Nat} {u : List Nat} (h : ((⟨u.toArray⟩ : PySem.Str) == PySem.Str.ofString "\"") = true) (ho : (foldS z done).2.1 = none) : foldS z (done ++ [(p, u)]) = ((foldS z done).1, some p, (foldS z done).2.2) := by
  rw [foldS_snoc]; unfold stepS
  rw [if_pos (quote_iff.mp h), ho]
theorem fold_same {z : PySem.Str} {done : List (Nat × List Nat)} {p o : Nat} {u : List Nat} (h : ((⟨u.toArray⟩ : PySem.Str) == PySem.Str.ofString "\"") = true) (ho : (foldS z done).2.1 = some o) (e : (foldS z done).1 = o) : foldS z (done ++ [(p, u)]) = (p + 1, none, (foldS z done).2.2) := by
  rw [foldS_snoc]; unfold stepS
  rw [if_pos (quote_iff.mp h), ho]
  simp only [if_pos e]
theorem fold_cut {z : PySem.Str} {done : List (Nat × List Nat)} {p o : Nat} {u : List Nat} (h : ((⟨u.toArray⟩ : PySem.Str) == PySem.Str.ofString "\"") = true) (ho : (foldS z done).2.1 = some o) (e : ¬ (foldS z done).1 = o) : foldS z (done ++ [(p, u)]) = (p + 1, none, (foldS z done).2.2 ++ [Txt.slice z (some ((foldS z done).1 : Int)) (some (o : Int))]) := by
  rw [foldS_snoc]; unfold stepS
  rw [if_pos (quote_iff.mp h), ho]
  simp only [if_neg e]
theorem strs_snoc {y : PySem.Str} {t : Tok} : ∀ {vs : List Value} {ys : List PySem.Str}, StrsAre vs ys → StrsAre (vs ++ [.str y t]) (ys ++ [y])
  | _, _, .nil => .cons y t .nil
  | _, _, .cons z u r => .cons z u (strs_snoc r)
theorem js_mk {z : PySem.Str} {tz : Tok} {R : Addr} {done : List (Nat × List Nat)} {st : Nat × Option Nat × List PySem.Str} {m' : PySem.Str → Option Value} (ys : List Value) (ts : Tok) (vo : Value) (e : foldS z done = st) (hy : StrsAre ys st.2.2) (ho : OpenIs st.2.1 vo)
    (ea : m' (PySem.Str.ofString "addr") = some (.str z tz)) (er : m' (PySem.Str.ofString "result") = some (.ref R)) (eo : m' (PySem.Str.ofString "open_pos") = some vo) (es : m' (PySem.Str.ofString "start") = some (.int (st.1 : Nat) ts)) : JS z tz R done m' [(R, lst ys)] := by
  subst e; exact ⟨ys, ts, vo, rfl, hy, ho, ea, er, eo, es⟩
theorem unitsF_len : ∀ (l : List Nat) (i : Nat) (e : Bool), (unitsF l i e).length ≤ l.length + (if e then 1 else 0)
  | [], _, false => Nat.le_refl _
  | [], _, true => Nat.le_refl _
  | c :: l, i, true => by
    have := unitsF_len l (i + 1) false
    simp only [unitsF, List.length_cons, if_true, Bool.false_eq_true, if_false] at this ⊢
    omega
  | c :: l, i, false => by
    unfold unitsF
    split
    · have := unitsF_len l (i + 1) true
      simp only [List.length_cons, if_true, Bool.false_eq_true, if_false] at this ⊢
      omega
    · have := unitsF_len l (i + 1) false
      simp only [List.length_cons, Bool.false_eq_true, if_false] at this ⊢
      omega
theorem step_len {z : PySem.Str} {st : Nat × Option Nat × List PySem.Str} {u : Nat × List Nat} : (stepS z st u).2.2.length ≤ st.2.2.length + 1 := by
  unfold stepS
  split
  · split
    · exact Nat.le_succ _
    · split
      · exact Nat.le_succ _
      · simp
  · exact Nat.le_succ _
theorem fold_len {z : PySem.Str} : ∀ (us : List (Nat × List Nat)) (st : Nat × Option Nat × List PySem.Str), (us.foldl (stepS z) st).2.2.length ≤ st.2.2.length + us.length
  | [], _ => Nat.le_refl _
  | u :: us, st => by
    rw [List.foldl_cons, List.length_cons]
    have := fold_len (z := z) us (stepS z st u)
    have h2 := step_len (z := z) (st := st) (u := u)
    omega
theorem strs_len : ∀ {vs : List Value} {ys : List PySem.Str}, StrsAre vs ys → vs.length = ys.length
  | _, _, .nil => rfl
  | _, _, .cons _ _ r => congrArg (· + 1) (strs_len r)
theorem drop2 {p q r : Addr × Obj} {l : List (Addr × Obj)} (h : r ∈ [p] ++ l) : r ∈ p :: q :: l := by
  rcases List.mem_cons.mp h with rfl | h
  · exact .head _
  · exact .tail _ (.tail _ h)
theorem one_lt {R C : Addr} {o o' : Obj} (hm : ∀ p ∈ [(R, o)], p.1 < C) : ∀ p ∈ [(R, o')], p.1 < C := fun p hp => by
  rw [List.mem_singleton.mp hp]; exact hm (R, o) (.head _)
theorem fr_ins {h₀ h : Heap} {L : Addr} {m : PySem.Str → Option Value} {a : PySem.Str} {v : Value} {m' : PySem.Str → Option Value} (F : Fr h₀ L h m') (e : m a = some v) (hm : m' = m) : Fr h₀ L h (fun y => if y = a then some v else m' y) := by
  have : (fun y => if y = a then some v else m' y) = m' := funext fun y => by
    by_cases q : y = a
    · rw [if_pos q, q, hm, e]
    · rw [if_neg q]
  rw [this]; exact F
theorem ins_eq {m m' : PySem.Str → Option Value} {a : PySem.Str} {v : Value} (e : m a = some v) (h : m' = m) : (fun y => if y = a then some v else m' y) = m := by
  subst h
  exact funext fun y => by
    by_cases q : y = a
    · rw [if_pos q, q, e]
    · rw [if_neg q]
theorem push_bare {gens : Array GenState} {x : GenState} (h : AllBare gens) : ∀ k y, k ≠ gens.size → (gens.push x)[k]? = some y → y.bare = true := by
  intro k y hk e
  rw [Array.getElem?_push, if_neg hk] at e
  exact h y (Array.mem_of_getElem? e)
theorem hne_nil {R : Addr} : ∀ q ∈ ([] : List (Addr × Obj)), q.1 ≠ R := fun _ h => nomatch h
theorem own_append {prog : Program} {w : World} {A : Around} {E : Value → Shared → Prop} {s : Shared} {h₀ : Heap} {L R : Addr} {m : PySem.Str → Option Value} {ys : List Value} {rest : List (Addr × Obj)} {v : Value} {Q : Value → Shared → Prop} (F : Fr h₀ L s.heap m) (N : News h₀ L s.heap ((R, lst ys) :: rest)) (hne : ∀ p ∈ rest, p.1 ≠ R) (hsz : ys.length ≤ sizeLine)
    (h : ∀ h', Fr h₀ L h' m → News h₀ L h' ((R, lst (ys ++ [v])) :: rest) → Q .none { s with heap := h' }) : wpAny (model prog w) A (call (.builtin "list.append") [.ref R, v]) Q E s := by
  have z := N _ (.head _)
  refine append_at (hsz := by show ys.toArray.size ≤ sizeLine; rw [List.size_toArray]; exact hsz) z.1 fun h' hs hD => h h' (F.change hs z.2.1 z.2.2) fun p hp => ?_
  rcases List.mem_cons.mp hp with rfl | hp
  · exact ⟨hD.trans (congrArg some (lst_snoc ys v)), z.2⟩
  · have q := N p (.tail _ hp)
    exact ⟨hs.extBut _ _ (hne p hp) q.1, q.2⟩
theorem step_small {z : PySem.Str} {st : Nat × Option Nat × List PySem.Str} {u : Nat × List Nat} (h : ∀ y ∈ st.2.2, y.length ≤ z.length) : ∀ y ∈ (stepS z st u).2.2, y.length ≤ z.length := by
  unfold stepS
  split
  · split
    · exact h
    · split
      · exact h
      · intro y hy
        rcases List.mem_append.mp hy with hy | hy
        · exact h y hy
        · rw [List.mem_singleton.mp hy]; exact PyProof.Txt.length_slice_le z _ _
  · exact h
theorem fold_small {z : PySem.Str} : ∀ (us : List (Nat × List Nat)) (st : Nat × Option Nat × List PySem.Str), (∀ y ∈ st.2.2, y.length ≤ z.length) → ∀ y ∈ (us.foldl (stepS z) st).2.2, y.length ≤ z.length
  | [], _, h => h
  | _ :: us, _, h => fold_small us _ (step_small h)
theorem wt_small : ∀ (l : List PySem.Str), (∀ y ∈ l, y.length ≤ 200) → (l.map (·.length)).sum + l.length ≤ 201 * l.length
  | [], _ => by simp
  | y :: l, h => by
    have h1 := wt_small l fun x hx => h x (.tail _ hx)
    have h2 := h y (.head _)
    simp only [List.map_cons, List.sum_cons, List.length_cons]
    omega
theorem own_join {prog : Program} {w : World} {A : Around} {E : Value → Shared → Prop} {s : Shared} {h₀ : Heap} {L R : Addr} {news : List (Addr × Obj)} {l : List Value} {res : List PySem.Str} {x : PySem.Str} {t : Tok} {Q : Value → Shared → Prop} (N : News h₀ L s.heap news) (hm : (R, lst l) ∈ news) (hi : StrsAre l res) (hsep : x.length ≤ 16)
    (hs : ∀ y ∈ res, y.length ≤ 200) (hl : res.length ≤ 1000) (h : ∀ t' k, Q (.str (Txt.join x res) t') { s with toks := k }) : wpAny (model prog w) A (call (.builtin "str.join") [.str x t, .ref R]) Q E s :=
  join_listW (ys := res) (news_isL N hm) hi hsep (by have := wt_small res hs; omega) h
theorem small_snoc {z y : PySem.Str} {l : List PySem.Str} (h : ∀ y ∈ l, y.length ≤ z.length) (hy : y.length ≤ z.length) (hz : z.length ≤ 200) : ∀ x ∈ l ++ [y], x.length ≤ 200 := fun x hx => by
  rcases List.mem_append.mp hx with hx | hx
  · exact Nat.le_trans (h x hx) hz
  · rw [List.mem_singleton.mp hx]; exact Nat.le_trans hy hz
theorem len0 : (PySem.Str.ofString "").length ≤ 16 := by decide +kernel
theorem rowW83 : True := by
  k_with "call builtin:str.join" => k_here; k_dflt (refine' own_join (by k_asm) (by k_extra "own tup") (by first | assumption | exact strs_snoc (by assumption)) len0 ?_ ?_ ?_; (focus (first | exact (fun y hy => Nat.le_trans ((by assumption : ∀ y ∈ _, PySem.Str.length y ≤ PySem.Str.length _) y hy) (by assumption)) | exact small_snoc (by assumption) (PyProof.Txt.length_slice_le _ _ _) (by assumption))); (focus (first | omega | (rw [List.length_append, List.length_singleton]; omega)))); intro t8 k8
  trivial
theorem hne_of {R C T a e it : Addr} {o o1 o2 o3 o4 o5 : Obj} (hm : ∀ p ∈ [(R, o)], p.1 < C) (h1 : C < T) (h2 : C < a) (h3 : C ≤ e) (h4 : C ≤ it) : ∀ q ∈ [(T, o1), (C, o2), (a, o3), (e, o4), (it, o5)], q.1 ≠ R := by
  have hR : R < C := hm _ (.head _)
  have hlt : ∀ b : Nat, C ≤ b → b ≠ R := fun b hb q => Nat.lt_irrefl _ (Nat.lt_of_lt_of_le (q ▸ hR) hb)
  intro q hq
  simp only [List.mem_cons, List.not_mem_nil, or_false] at hq
  rcases hq with rfl | rfl | rfl | rfl | rfl
  · exact hlt _ (Nat.le_of_lt h1)
  · exact hlt _ (Nat.le_refl _)
  · exact hlt _ (Nat.le_of_lt h2)
  · exact hlt _ h3
  · exact hlt _ h4
theorem rowW84 : True := by
  k_with "call builtin:list.append" => k_here; k_dflt (refine' own_append (by k_asm) (by k_asm) (by first | exact hne_of (by assumption) (by assumption) (by assumption) (by assumption) (by assumption) | exact hne_nil) (by assumption) ?_); intro h8 F8 N8
  trivial
theorem rowW85 : True := by
  k_with "TurnG" => refine Hid.out ?_
  trivial
theorem strip (w mean mg mb) (z : PySem.Str) (tk : Tok) (hz : z.length ≤ 200) : ClG w mean mg mb 49 4 [.str z tk] (fun _ => True) (TxtOut (stripF z)) := by
  unfold ClG; k_fill
  intro dp un gd cn cs a ccd cl outer A₀ base h₀ L m news s Q E B F X N T hk hd hu hP hret
  refine wpAny_call ?_
  k_dflt (refine' code_defG ?k1 ?k2 ?k3 (newsNone ?k4) ?k5 ?kA ?kF ?kK ?k6 ?k7 ?k8 ?k9 ?kB ?_ ?c2 ?c3 ?c4 ?c5; (case kA => exact rfl); (case kF => exact rfl); (case kK => assumption); (case k1 => k_asm); (case k2 => k_asm); (case k3 => k_asm); (case k4 => k_asm); (case k5 => k_asm); (case k6 => k_is); (case k7 => k_is); (case k8 => ktr_room); (case k9 => exact BindsTo.of_eq rfl); (case c5 => decide); (case kB => exact locs rfl); (case c2 => exact rfl); (case c3 => exact rfl); (case c4 => exact rfl); k_whole)
  intro g' L' h' FG' F' N' B' X' T' G'
  have HN := Hid.mk N
  have HG := Hid.mk G'
  clear N G'
  try dsimp only
  try k_fold
  k_steps
  · rename News _ _ _ _ => kN
    rename Fr _ _ _ _ => kF
    refine own_leaveG hret HN HG kF (l2 := []) (fun _ h => nomatch h) F' (l1 := []) (fun _ h => nomatch h) [] (fun _ h => nomatch h) (fun _ h => nomatch h) ⟨⟨_, congrArg (fun y => Value.str y _) (strip_none (by assumption)).symm⟩, rfl⟩ (fun h => h)
  · refine Hid.mk ?_
    intro C9 a9 g9 h9 tk9 cde9 F9 hLC hCa ln9 hn EA hg
    try dsimp only
    refine wpAny_pyIter_gen EA.1 ?_
    refine loop_esc (mean := mean) (mg := mg) (mb := mb) rfl (by ktr_room) (by k_asm) F9 hn hLC (by assumption) (by assumption) EA (JS z _ _) ⟨[], _, _, rfl, .nil, rfl, by with_unfolding_all rfl, by with_unfolding_all rfl, by with_unfolding_all rfl, by with_unfolding_all rfl⟩ ?_ ?_
    · rintro done u rest m₁ mine₁ T₁ t1 t2 h₁ tk₁ gs₁ e it oC oa oe oi hus ⟨ys, ts, vo, rfl, hys, ho, ea, er, eo, es⟩ hm₁ hCT hCe hCi F₁ N₁ hoa
      have F₂ := fr_ins (fr_ins (fr_ins (fr_ins F₁ ea rfl) er (ins_eq ea rfl)) eo (ins_eq er (ins_eq ea rfl))) es (ins_eq eo (ins_eq er (ins_eq ea rfl)))
      clear F₁
      refine go_gen (N₁ (_, oa) (by simp)).1 ⟨_, hoa⟩ ?_
      simp only [List.cons_append, List.nil_append] at N₁
      obtain ⟨p, us⟩ := u
      have hyl : ys.length ≤ sizeLine := by
        have h1 := strs_len hys
        have h2 : (foldS z done).2.2.length ≤ 0 + done.length := fold_len done (0, none, [])
        have h3 := unitsF_len z.cps.toList 0 false
        have h4 : done.length ≤ (unitsF z.cps.toList 0 false).length := by rw [hus, List.length_append]; exact Nat.le_add_right _ _
        have h5 : z.cps.toList.length ≤ 200 := by rw [Array.length_toList]; exact hz
        simp only [Bool.false_eq_true, if_false] at h3
        exact Nat.le_trans (show ys.length ≤ 200 by omega) (by decide)
      dsimp only at N₁ ⊢
      cases hop : (foldS z done).2.1 with
      | none =>
        rw [hop] at ho
        have ho' : vo = .none := ho
        subst ho'
        k_steps
        all_goals (
          rename Fr _ _ _ _ => kF
          rename News _ _ _ _ => kN
          refine Hid.mk ⟨.inl rfl, _, _, _, [_], rfl, kF, fun q hq => kN q (drop2 hq), hm₁, ?_⟩
          first
          | exact js_mk ys ts .none (fold_no (by assumption)) hys (by rw [hop]; rfl) (by with_unfolding_all rfl) (by with_unfolding_all rfl) (by with_unfolding_all rfl) (by with_unfolding_all rfl)
          | exact js_mk ys ts _ (fold_open (by assumption) hop) hys ⟨_, rfl⟩ (by with_unfolding_all rfl) (by with_unfolding_all rfl) (by with_unfolding_all rfl) (by with_unfolding_all rfl))
      | some o =>
        rw [hop] at ho
        obtain ⟨to, rfl⟩ := ho
        k_steps
        all_goals (
          rename Fr _ _ _ _ => kF
          rename News _ _ _ _ => kN
          refine Hid.mk ⟨.inl rfl, _, _, _, [_], rfl, kF, fun q hq => kN q (drop2 hq), one_lt hm₁, ?_⟩
          first
          | exact js_mk ys ts (.int (o : Nat) to) (fold_no (by assumption)) hys (by rw [hop]; exact ⟨to, rfl⟩) (by with_unfolding_all rfl) (by with_unfolding_all rfl) (by with_unfolding_all rfl) (by with_unfolding_all rfl)
          | exact js_mk _ _ _ (fold_cut (by assumption) hop (by omega)) (strs_snoc hys) rfl (by with_unfolding_all rfl) (by with_unfolding_all rfl) (by with_unfolding_all rfl) (by with_unfolding_all rfl)
          | exact js_mk ys _ _ (fold_same (by assumption) hop (by omega)) hys rfl (by with_unfolding_all rfl) (by with_unfolding_all rfl) (by with_unfolding_all rfl) (by with_unfolding_all rfl))
    · rintro h₁ tk₁ m₁ mine₁ gs₁ F₁ N₁ ⟨ys, ts, vo, rfl, hys, ho, ea, er, eo, es⟩ hbare
      have F₂ := fr_ins (fr_ins (fr_ins F₁ ea rfl) er (ins_eq ea rfl)) es (ins_eq er (ins_eq ea rfl))
      clear F₁
      have hyl : ys.length ≤ sizeLine := by
        have h1 := strs_len hys
        have h2 : (foldS z (unitsF z.cps.toList 0 false)).2.2.length ≤ 0 + (unitsF z.cps.toList 0 false).length := fold_len _ (0, none, [])
        have h3 := unitsF_len z.cps.toList 0 false
        have h5 : z.cps.toList.length ≤ 200 := by rw [Array.length_toList]; exact hz
        simp only [Bool.false_eq_true, if_false] at h3
        exact Nat.le_trans (show ys.length ≤ 200 by omega) (by decide)
      have hsm : ∀ y ∈ (foldS z (unitsF z.cps.toList 0 false)).2.2, y.length ≤ z.length := fold_small _ (0, none, []) (fun _ h => nomatch h)
      have hrl : (foldS z (unitsF z.cps.toList 0 false)).2.2.length ≤ 200 := by
        have h2 : (foldS z (unitsF z.cps.toList 0 false)).2.2.length ≤ 0 + (unitsF z.cps.toList 0 false).length := fold_len _ (0, none, [])
        have h3 := unitsF_len z.cps.toList 0 false
        have h5 : z.cps.toList.length ≤ 200 := by rw [Array.length_toList]; exact hz
        simp only [Bool.false_eq_true, if_false] at h3
        omega
      dsimp only
      k_steps
      all_goals (
        rename News _ _ _ _ => kN
        rename Fr _ _ _ _ => kF
        rename News g' _ _ _ => gN
        rename Fr g' _ _ _ => gF
        have hb : AllBare s.gens → AllBare gs₁ := fun x => hbare (hg ▸ push_bare x)
        first
        | exact own_leaveG hret HN HG kF kN gF gN [] (fun _ h => nomatch h) (fun _ h => nomatch h) ⟨⟨_, congrArg (fun y => Value.str y _) (end_more (by assumption) (by omega)).symm⟩, rfl⟩ hb
        | exact own_leaveG hret HN HG kF kN gF gN [] (fun _ h => nomatch h) (fun _ h => nomatch h) ⟨⟨_, congrArg (fun y => Value.str y _) (end_less (by assumption) (by omega)).symm⟩, rfl⟩ hb)
end Mine
end
section
open PySem PySem.W PyProof.Rows PySem.Spec PySem.Calls Lean Meta Elab Tactic
set_option Elab.async false
set_option maxRecDepth 100000
set_option maxHeartbeats 2000000
namespace Mine
open PyProof.Rows.LCg PyProof.Rows.LCt
theorem split3 {l : List (PySem.Str × Tok)} {y1 y2 y3 : PySem.Str} (h : l.map (·.1) = [y1, y2, y3]) : ∃ t1 t2 t3, l = [(y1, t1), (y2, t2), (y3, t3)] := by
  match l, h with
  | [(a, t1), (b, t2), (c, t3)], h =>
    simp only [List.map_cons, List.map_nil, List.cons.injEq, and_true] at h
    obtain ⟨rfl, rfl, rfl⟩ := h
    exact ⟨t1, t2, t3, rfl⟩
inductive List3Out (y1 y2 y3 : PySem.Str) (news : List (Addr × Obj)) : List (Addr × Obj) → Value → Prop
  | mk (D : Addr) (t1 t2 t3 : Tok) (n : Nat) : List3Out y1 y2 y3 news [(D, W.listOf #[.str y1 t1, .str y2 t2, .str y3 t3] n)] (.ref D)
theorem split_at3 {prog : Program} {w : World} {A : Around} {E : Value → Shared → Prop} {s : Shared} {h₀ : Heap} {L : Addr} {m : PySem.Str → Option Value} {news : List (Addr × Obj)} {x y y1 y2 y3 : PySem.Str} {k : Int} {t u v : Tok} {Q : Value → Shared → Prop} (hF : Fr h₀ L s.heap m) (hN : News h₀ L s.heap news) (hsp : Txt.splitMax x y k = [y1, y2, y3])
    (hy : (y.length == 0) = false) (hk : (decide (k < -(2 ^ 63 : Int)) || decide (k ≥ 2 ^ 63)) = false) (hsz : x.length ≤ 200)
    (h : ∀ D h' tk t1 t2 t3, Fr h₀ L h' m → News h₀ L h' ((D, W.listOf #[.str y1 t1, .str y2 t2, .str y3 t3] 0) :: news) → Q (.ref D) { s with heap := h', toks := tk }) :
    wpAny (model prog w) A (call (.builtin "str.split") [.str x t, .str y u, .int k v]) Q E s := by
  refine splitN2A (hsz := by rw [PySem.sizeLine_eq]; omega) hF hN hy hk ?_
  intro l h' tk e _ _ _ F' N'
  rw [hsp] at e
  obtain ⟨t1, t2, t3, rfl⟩ := split3 e
  exact h _ h' tk t1 t2 t3 F' N'
theorem rowW90 : True := by
  k_with_none
  trivial
theorem rowW9T : True := by
  k_with "own tup" => first | assumption | exact List.Mem.head _ | (refine List.Mem.tail _ ?_; k_extra "own tup")
  trivial
theorem rowW91 : True := by
  k_with "call builtin:str.split" => k_here; k_dflt (refine' split_at3 (by k_asm) (by k_asm) (by assumption) (by rfl) (by decide) (by assumption) ?_); intro D9 h9 tk9 t1 t2 t3 F9 N9
  trivial
theorem decode (w mean mg mb) (z y1 y2 y3 : PySem.Str) (tk : Tok) (hz : z.length ≤ 200) (hsp : Txt.splitMax z (PySem.Str.ofString "'") 2 = [y1, y2, y3]) : Cl w mean mg mb 56 4 [.str z tk] (fun _ => True) (List3Out y1 y2 y3) := by
  unfold Cl; k_fill
  intro dp un gd cn cs a ccd cl outer A₀ base h₀ L m news s Q E B F X N T hk hd hu hP hret
  refine wpAny_call ?_
  k_dflt (refine' code_defG ?k1 ?k2 ?k3 (newsNone ?k4) ?k5 ?kA ?kF ?kK ?k6 ?k7 ?k8 ?k9 ?kB ?_ ?c2 ?c3 ?c4 ?c5; (case kA => exact rfl); (case kF => exact rfl); (case kK => assumption); (case k1 => k_asm); (case k2 => k_asm); (case k3 => k_asm); (case k4 => k_asm); (case k5 => k_asm); (case k6 => k_is); (case k7 => k_is); (case k8 => ktr_room); (case k9 => exact BindsTo.of_eq rfl); (case c5 => decide); (case kB => exact locs rfl); (case c2 => exact rfl); (case c3 => exact rfl); (case c4 => exact rfl); k_whole)
  intro g' L' h' FG' F' N' B' X' T' G'
  have HN := Hid.mk N
  have HG := Hid.mk G'
  clear N G'
  try dsimp only
  try k_fold
  k_steps
  all_goals (
    rename News _ _ _ _ => kN
    rename Fr _ _ _ _ => kF
    rename News g' _ _ _ => gN
    rename Fr g' _ _ _ => gF
    exact own_leave hret HN HG kF kN gF gN [(_, W.listOf #[.str _ _, .str _ _, .str _ _] _)] (all1 (by k_extra "own tup")) (all1 (by k_extra "own tup")) (.mk _ _ _ _ _))
end Mine
end
section
open PySem PySem.W PyProof.Rows PySem.Spec PySem.Calls Lean Meta Elab Tactic
set_option Elab.async false
set_option maxRecDepth 100000
set_option maxHeartbeats 2000000
namespace Mine
open PyProof.Rows.LCg PyProof.Rows.LCt
noncomputable def tokL : List (PySem.Str × Nat × Int × Nat) := [(PySem.Str.ofString "!", 2404, 54, 2400), (PySem.Str.ofString "!=", 2406, 28, 2348), (PySem.Str.ofString "%", 2408, 24, 2340), (PySem.Str.ofString "%=", 2410, 40, 2372), (PySem.Str.ofString "&", 2412, 19, 2330), (PySem.Str.ofString "&=", 2414, 41, 2374), (PySem.Str.ofString "(", 2416, 7, 2306), (PySem.Str.ofString ")", 2418, 8, 2308), (PySem.Str.ofString "*", 2420, 16, 2324), (PySem.Str.ofString "**", 2422, 35, 2362), (PySem.Str.ofString "**=", 2424, 46, 2384), (PySem.Str.ofString "*=", 2426, 38, 2368), (PySem.Str.ofString "+", 2428, 14, 2320), (PySem.Str.ofString "+=", 2430, 36, 2364), (PySem.Str.ofString ",", 2432, 12, 2316), (PySem.Str.ofString "-", 2434, 15, 2322), (PySem.Str.ofString "-=", 2436, 37, 2366), (PySem.Str.ofString "->", 2438, 51, 2394), (PySem.Str.ofString ".", 2440, 23, 2338), (PySem.Str.ofString "...", 2442, 52, 2396), (PySem.Str.ofString "/", 2444, 17, 2326), (PySem.Str.ofString "//", 2446, 47, 2386), (PySem.Str.ofString "//=", 2448, 48, 2388), (PySem.Str.ofString "/=", 2450, 39, 2370), (PySem.Str.ofString ":", 2452, 11, 2314), (PySem.Str.ofString ":=", 2454, 53, 2398), (PySem.Str.ofString ";", 2456, 13, 2318), (PySem.Str.ofString "<", 2458, 20, 2332), (PySem.Str.ofString "<<", 2460, 33, 2358), (PySem.Str.ofString "<<=", 2462, 44, 2380), (PySem.Str.ofString "<=", 2464, 29, 2350), (PySem.Str.ofString "=", 2466, 22, 2336), (PySem.Str.ofString "==", 2468, 27, 2346), (PySem.Str.ofString ">", 2470, 21, 2334), (PySem.Str.ofString ">=", 2472, 30, 2352), (PySem.Str.ofString ">>", 2473, 34, 2360), (PySem.Str.ofString ">>=", 2474, 45, 2382), (PySem.Str.ofString "@", 2475, 49, 2390), (PySem.Str.ofString "@=", 2476, 50, 2392), (PySem.Str.ofString "[", 2477, 9, 2310), (PySem.Str.ofString "]", 2478, 10, 2312), (PySem.Str.ofString "^", 2479, 32, 2356), (PySem.Str.ofString "^=", 2480, 43, 2378), (PySem.Str.ofString "{", 2481, 25, 2342), (PySem.Str.ofString "|", 2482, 18, 2328), (PySem.Str.ofString "|=", 2483, 42, 2376), (PySem.Str.ofString "}", 2484, 26, 2344), (PySem.Str.ofString "~", 2485, 31, 2354)]
noncomputable def tokF (x : PySem.Str) : Option (Int × Nat) := (tokL.find? fun e => e.1 == x).map (·.2.2)
noncomputable def tokV (x : PySem.Str) : Option Value := (tokF x).map fun e => .int e.1 e.2
noncomputable def tokE (P : Params) (e : PySem.Str × Nat × Int × Nat) : DictEntry := ⟨PyData.keyHash P e.1, .str e.1 e.2.1, .int e.2.2.1 e.2.2.2⟩
theorem o121_is (P : Params) : o121 P = ⟨(.type "dict"), none, (.dict (tokL.map (tokE P)).toArray 48), #[]⟩ := rfl
theorem tok_find (P : Params) (x : PySem.Str) : ∀ l : List (PySem.Str × Nat × Int × Nat), findBy Value.isStrOf (l.map (tokE P)).toArray x = ((l.find? fun e => e.1 == x).map (·.2.2)).map fun e => .int e.1 e.2
  | [] => rfl
  | e :: l => by
    have ih := tok_find P x l
    unfold findBy at ih ⊢
    rw [List.find?_toArray] at ih ⊢
    rw [List.map_cons, List.find?_cons, List.find?_cons]
    show (match (e.1 == x) with | true => some (tokE P e) | false => _).map _ = _
    cases e.1 == x with
    | true => rfl
    | false => exact ih
theorem map121 {prog : Program} {w : World} {h : Heap} (ho : h.get? 121 = some (o121 w.params)) : h.MapOf (strKind prog w) 121 tokV := by
  rw [o121_is] at ho
  refine ⟨_, _, 48, ho, ⟨rfl, rfl, rfl⟩, rfl, ?_, fun x => tok_find w.params x tokL⟩
  intro e he
  have he' : e ∈ tokL.map (tokE w.params) := by simpa using he
  obtain ⟨t, _, rfl⟩ := List.mem_map.mp he'
  exact ⟨t.1, strKind_is prog w t.1 t.2.1, rfl⟩
theorem notin121 {prog : Program} {w : World} {A : Around} {E : Value → Shared → Prop} {s : Shared} {x : PySem.Str} {t : Tok} {Q : Value → Shared → Prop} (ho : s.heap.get? 121 = some (o121 w.params)) (h : Q (.bool !(tokF x).isSome) { s with toks := s.toks + 1 }) : wpAny (model prog w) A (compareOp .NotIn (.str x t) (.ref 121)) Q E s :=
  wpAny_notIn_of (knd := strKind prog w) (strKind_is _ _ _ _) rfl (map121 ho) (by unfold tokV; rw [Option.isSome_map]; exact h)
theorem in121 {prog : Program} {w : World} {A : Around} {E : Value → Shared → Prop} {s : Shared} {x : PySem.Str} {t : Tok} {Q : Value → Shared → Prop} (ho : s.heap.get? 121 = some (o121 w.params)) (h : Q (.bool (tokF x).isSome) { s with toks := s.toks + 1 }) : wpAny (model prog w) A (compareOp .In (.str x t) (.ref 121)) Q E s :=
  wpAny_in_of (knd := strKind prog w) (strKind_is _ _ _ _) rfl (map121 ho) (by unfold tokV; rw [Option.isSome_map]; exact h)
theorem item121 {prog : Program} {w : World} {A : Around} {E : Value → Shared → Prop} {s : Shared} {value slice : PySem.Expr} {x : PySem.Str} {t : Tok} {Q : Value → Shared → Prop} (ho : s.heap.get? 121 = some (o121 w.params)) (hx : (tokF x).isSome = true) (h : ∀ t', Q (.int ((tokF x).getD (0, 0)).1 t') { s with toks := s.toks + 1 })
    (hs : subscripted slice false (.ref 121) (.str x t) = operate [.ref 121, .str x t] (getItem (.ref 121) (.str x t)) ) (hg : ∀ r, letTemporaryGo value (.ref 121) r = pure ()) :
    wpAny (model prog w) A (subscriptTail value slice (.ref 121) (.str x t)) Q E s := by
  have T := map121 (prog := prog) ho
  refine subscriptTail_builtin T.typeIs slot_dict_getitem.lookup ?_ hs hg
  cases e : tokF x with
  | none => rw [e] at hx; cases hx
  | some p =>
    rw [e] at h
    exact wpAny_getItem_of (knd := strKind prog w) (v := .int p.1 p.2) (strKind_is _ _ _ _) T (by unfold tokV; rw [e]; rfl) (h _)
theorem rowW100 : True := by
  k_with_none
  trivial
theorem rowW10T : True := by
  k_with "own tup" => first | assumption | exact List.Mem.head _ | (refine List.Mem.tail _ ?_; k_extra "own tup")
  trivial
theorem rowW101 : True := by
  k_with "compareOp NotIn str ref" => k_here; k_dflt (refine' notin121 (inK (by k_asm) (by k_asm) (by k_is)) ?_)
  trivial
theorem rowW102 : True := by
  k_with "compareOp In str ref" => k_here; k_dflt (refine' in121 (inK (by k_asm) (by k_asm) (by k_is)) ?_)
  trivial
theorem rowW103 : True := by
  k_with "subscriptTail Name Name ref str" => k_here; k_dflt (refine' item121 (inK (by k_asm) (by k_asm) (by k_is)) (by assumption) ?_ (by with_unfolding_all rfl) (by intro _; with_unfolding_all rfl)); intro _
  trivial
theorem rowW104 : True := by
  k_with "exec While Compare cons nil" => refine Hid.out ?_
  trivial
theorem rowW105 : True := by
  k_with "exec While BoolOp cons nil" => refine Hid.out ?_
  trivial
theorem rowW106 : True := by
  k_with "WhileStep" => refine Hid.out ?_
  trivial
noncomputable abbrev cutI (z : PySem.Str) (i j : Int) : PySem.Str := Txt.slice z (some i) (some j)
noncomputable def sizeI (z : PySem.Str) (i : Int) : Int := if (tokF (cutI z i (i + 3))).isSome = true then 3 else if (tokF (cutI z i (i + 2))).isSome = true then 2 else 1
noncomputable def codeI (z : PySem.Str) (i : Int) : Int := if (tokF (cutI z i (i + sizeI z i))).isSome = true then ((tokF (cutI z i (i + sizeI z i))).getD (0, 0)).1 else 256 + (((cutI z i (i + sizeI z i)).cps.getD 0 0 : Nat) : Int)
inductive Syms (z : PySem.Str) : Int → List Int → Prop
  | done {i : Int} : ¬ i < (z.length : Int) → Syms z i []
  | step {i : Int} {l : List Int} : i < (z.length : Int) → Syms z (i + sizeI z i) l → Syms z i (codeI z i :: l)
theorem sz_of {z : PySem.Str} {i k : Int} (h1 : 1 ≤ k) (h2 : k ≤ 3) (a : k ≤ 2 → (tokF (cutI z i (i + 3))).isSome = false) (b : k ≤ 1 → (tokF (cutI z i (i + 2))).isSome = false) (c : 1 < k → (tokF (cutI z i (i + k))).isSome = true) : sizeI z i = k := by
  have hk : k = 1 ∨ k = 2 ∨ k = 3 := by omega
  unfold sizeI
  rcases hk with rfl | rfl | rfl
  · rw [if_neg (by rw [a (by omega)]; exact Bool.false_ne_true), if_neg (by rw [b (by omega)]; exact Bool.false_ne_true)]
  · rw [if_neg (by rw [a (by omega)]; exact Bool.false_ne_true), if_pos (c (by omega))]
  · rw [if_pos (c (by omega))]
theorem size_pos (z : PySem.Str) (i : Int) : 1 ≤ sizeI z i := by
  unfold sizeI
  split
  · decide
  · split <;> decide
theorem code_in {z : PySem.Str} {i k : Int} (hk : sizeI z i = k) (h : (tokF (cutI z i (i + k))).isSome = true) : codeI z i = ((tokF (cutI z i (i + k))).getD (0, 0)).1 := by
  unfold codeI; rw [hk, if_pos h]
theorem code_out {z : PySem.Str} {i k : Int} (hk : sizeI z i = k) (h : (tokF (cutI z i (i + k))).isSome = false) : codeI z i = 256 + (((cutI z i (i + k)).cps.getD 0 0 : Nat) : Int) := by
  unfold codeI; rw [hk, if_neg (by rw [h]; exact Bool.false_ne_true)]
inductive JRow (z : PySem.Str) (tz : Tok) (R : Addr) (l : List Int) (n : Nat) (m' : PySem.Str → Option Value) (nw : List (Addr × Obj)) : Prop
  | mk (i : Int) (done rest : List Int) (ys : List Value) (ti : Tok) : m' (PySem.Str.ofString "part") = some (.str z tz) → m' (PySem.Str.ofString "row") = some (.ref R) → m' (PySem.Str.ofString "at") = some (.int i ti) → nw = [(R, lst ys)] → IntsAre ys done → l = done ++ rest → Syms z i rest → 0 ≤ i → n = rest.length → JRow z tz R l n m' nw
inductive JIn (z : PySem.Str) (tz : Tok) (R : Addr) (ys : List Value) (i : Int) (ti : Tok) (n : Nat) (m' : PySem.Str → Option Value) (nw : List (Addr × Obj)) : Prop
  | mk (k : Int) (ts : Tok) : m' (PySem.Str.ofString "part") = some (.str z tz) → m' (PySem.Str.ofString "row") = some (.ref R) → m' (PySem.Str.ofString "at") = some (.int i ti) → m' (PySem.Str.ofString "size") = some (.int k ts) → nw = [(R, lst ys)] →
    1 ≤ k → k ≤ 3 → (k ≤ 2 → (tokF (cutI z i (i + 3))).isSome = false) → (k ≤ 1 → (tokF (cutI z i (i + 2))).isSome = false) → n = k.toNat → JIn z tz R ys i ti n m' nw
theorem cut_one {z : PySem.Str} {i : Int} (h0 : 0 ≤ i) (h1 : i < (z.length : Int)) : (cutI z i (i + 1)).length = 1 := by
  have := fact_slice_ss z i (i + 1) h0 (by omega) (by omega)
  show (Txt.slice z (some i) (some (i + 1))).length = 1
  omega
theorem rowW107 : True := by
  k_with "call builtin:list.append" => k_here; k_dflt (refine' own_append (by k_asm) (by k_asm) hne_nil (by assumption) ?_); intro h8 F8 N8
  trivial
theorem rowW108 : True := by
  k_with "call builtin:ord" => k_here; k_dflt (refine ord_of_one (by assumption) ?_)
  trivial
theorem syms_step {z : PySem.Str} {i : Int} {l : List Int} (h : Syms z i l) (hi : i < (z.length : Int)) : ∃ l', l = codeI z i :: l' ∧ Syms z (i + sizeI z i) l' := by
  cases h with
  | done h => exact absurd hi h
  | step _ h => exact ⟨_, rfl, h⟩
theorem syms_end {z : PySem.Str} {i : Int} {l : List Int} (h : Syms z i l) (hi : ¬ i < (z.length : Int)) : l = [] := by
  cases h with
  | done h => rfl
  | step h _ => exact absurd h hi
theorem ints_snoc {n : Int} {t : Tok} : ∀ {vs : List Value} {ns : List Int}, IntsAre vs ns → IntsAre (vs ++ [.int n t]) (ns ++ [n])
  | _, _, .nil => .cons n t .nil
  | _, _, .cons a u r => .cons a u (ints_snoc r)
theorem jrow_mk {z : PySem.Str} {tz : Tok} {R : Addr} {l done rest' : List Int} {m' : PySem.Str → Option Value} {ys : List Value} {i k v : Int} {t : Tok} (ti : Tok) (hsz : sizeI z i = k) (hc : codeI z i = v) (hys : IntsAre ys done) (hrest : l = done ++ codeI z i :: rest') (hS' : Syms z (i + sizeI z i) rest') (hi0 : 0 ≤ i)
    (ea : m' (PySem.Str.ofString "part") = some (.str z tz)) (er : m' (PySem.Str.ofString "row") = some (.ref R)) (et : m' (PySem.Str.ofString "at") = some (.int (i + k) ti)) : JRow z tz R l rest'.length m' [(R, lst (ys ++ [.int v t]))] := by
  subst hsz hc
  have hp := size_pos z i
  exact ⟨_, done ++ [codeI z i], rest', _, ti, ea, er, et, rfl, ints_snoc hys, by rw [hrest]; simp, hS', by omega, rfl⟩
noncomputable abbrev RowOut (l : List Int) (_ tl : List (Addr × Obj)) (v : Value) : Prop := ∃ D ys, v = .ref D ∧ tl = [(D, lst ys)] ∧ IntsAre ys (l ++ [0])
theorem symbols (w mean mg mb) (z : PySem.Str) (tk : Tok) (hz : z.length ≤ 200) (l : List Int) (hS : Syms z 0 l) (hl : l.length ≤ 200) : Cl w mean mg mb 149 4 [.str z tk] (fun _ => True) (RowOut l) := by
  unfold Cl; k_fill
  intro dp un gd cn cs a ccd cl outer A₀ base h₀ L m news s Q E B F X N T hk hd hu hP hret
  refine wpAny_call ?_
  k_dflt (refine' code_defG ?k1 ?k2 ?k3 (newsNone ?k4) ?k5 ?kA ?kF ?kK ?k6 ?k7 ?k8 ?k9 ?kB ?_ ?c2 ?c3 ?c4 ?c5; (case kA => exact rfl); (case kF => exact rfl); (case kK => assumption); (case k1 => k_asm); (case k2 => k_asm); (case k3 => k_asm); (case k4 => k_asm); (case k5 => k_asm); (case k6 => k_is); (case k7 => k_is); (case k8 => ktr_room); (case k9 => exact BindsTo.of_eq rfl); (case c5 => decide); (case kB => exact locs rfl); (case c2 => exact rfl); (case c3 => exact rfl); (case c4 => exact rfl); k_whole)
  intro g' L' h' FG' F' N' B' X' T' G'
  have HN := Hid.mk N
  have HG := Hid.mk G'
  clear N G'
  try dsimp only
  try k_fold
  k_steps
  · refine Hid.mk ?_
    rename Fr g' _ _ _ => F9
    rename News g' _ _ _ => N9
    refine While_inv (JRow z _ _ l) F9 N9 ⟨0, [], l, [], _, by with_unfolding_all rfl, by with_unfolding_all rfl, by with_unfolding_all rfl, rfl, .nil, rfl, hS, by decide, rfl⟩ ?_
    rintro n m₁ nw h₁ tk₁ F₁ N₁ ⟨i, done, rest, ys, ti, ea, er, et, rfl, hys, hrest, hSy, hi0, rfl⟩
    have F₂ := fr_ins (fr_ins (fr_ins F₁ ea rfl) er (ins_eq ea rfl)) et (ins_eq er (ins_eq ea rfl))
    clear F₁
    have hyl : ys.length ≤ sizeLine := by
      have h1 := hys.length
      have h2 : done.length ≤ l.length := by rw [hrest, List.length_append]; exact Nat.le_add_right _ _
      exact Nat.le_trans (show ys.length ≤ 200 by omega) (by decide)
    k_steps
    · refine Hid.mk ?_
      rename Fr g' _ _ _ => F8
      rename News g' _ _ _ => N8
      have hone : (cutI z i (i + 1)).length = 1 := cut_one hi0 (by assumption)
      refine While_inv (JIn z _ _ ys i ti) F8 N8 (n₀ := 3) ⟨3, _, by with_unfolding_all rfl, by with_unfolding_all rfl, by with_unfolding_all rfl, by with_unfolding_all rfl, rfl, by decide, by decide, fun h => absurd h (by decide), fun h => absurd h (by decide), rfl⟩ ?_
      clear F8 N8
      obtain ⟨rest', rfl, hS'⟩ := syms_step hSy (by assumption)
      rintro n m₂ nw h₂ tk₂ F₂ N₂ ⟨k, tz, ea, er, et, es, rfl, hk1, hk3, hn3, hn2, rfl⟩
      have F₃ := fr_ins (fr_ins (fr_ins (fr_ins F₂ ea rfl) er (ins_eq ea rfl)) et (ins_eq er (ins_eq ea rfl))) es (ins_eq et (ins_eq er (ins_eq ea rfl)))
      clear F₂
      have hk : k = 1 ∨ k = 2 ∨ k = 3 := by omega
      rcases hk with rfl | rfl | rfl
      · k_steps
        all_goals (
          rename Fr g' _ _ _ => kF
          rename News g' _ _ _ => kN
          refine Hid.mk (WhileStep.intro kF kN (Nat.lt_succ_self _) ?_)
          first
          | exact jrow_mk _ (sz_of hk1 hk3 hn3 hn2 (fun h => absurd h (by decide))) (code_in (sz_of hk1 hk3 hn3 hn2 (fun h => absurd h (by decide))) (by assumption)) hys hrest hS' hi0 (by with_unfolding_all rfl) (by with_unfolding_all rfl) (by with_unfolding_all rfl)
          | exact jrow_mk _ (sz_of hk1 hk3 hn3 hn2 (fun h => absurd h (by decide))) (code_out (sz_of hk1 hk3 hn3 hn2 (fun h => absurd h (by decide))) (by assumption)) hys hrest hS' hi0 (by with_unfolding_all rfl) (by with_unfolding_all rfl) (by with_unfolding_all rfl))
      · k_steps
        · rename Fr g' _ _ _ => kF
          rename News g' _ _ _ => kN
          refine Hid.mk (WhileStep.intro kF kN (Nat.lt_succ_self _) ?_)
          exact jrow_mk _ (sz_of hk1 hk3 hn3 hn2 (fun _ => by assumption)) (code_in (sz_of hk1 hk3 hn3 hn2 (fun _ => by assumption)) (by assumption)) hys hrest hS' hi0 (by with_unfolding_all rfl) (by with_unfolding_all rfl) (by with_unfolding_all rfl)
        · rename Fr g' _ _ _ => kF
          rename News g' _ _ _ => kN
          refine Hid.mk (WhileStep.intro (n' := 1) kF kN (by decide) ?_)
          exact ⟨1, _, by with_unfolding_all rfl, by with_unfolding_all rfl, by with_unfolding_all rfl, by with_unfolding_all rfl, rfl, by decide, by decide, fun _ => hn3 (by decide), fun _ => by assumption, rfl⟩
      · k_steps
        · rename Fr g' _ _ _ => kF
          rename News g' _ _ _ => kN
          refine Hid.mk (WhileStep.intro kF kN (Nat.lt_succ_self _) ?_)
          exact jrow_mk _ (sz_of hk1 hk3 hn3 hn2 (fun _ => by assumption)) (code_in (sz_of hk1 hk3 hn3 hn2 (fun _ => by assumption)) (by assumption)) hys hrest hS' hi0 (by with_unfolding_all rfl) (by with_unfolding_all rfl) (by with_unfolding_all rfl)
        · rename Fr g' _ _ _ => kF
          rename News g' _ _ _ => kN
          refine Hid.mk (WhileStep.intro (n' := 2) kF kN (by decide) ?_)
          exact ⟨2, _, by with_unfolding_all rfl, by with_unfolding_all rfl, by with_unfolding_all rfl, by with_unfolding_all rfl, rfl, by decide, by decide, fun _ => by assumption, fun h => absurd h (by decide), rfl⟩
    · have hr := syms_end hSy (by assumption)
      subst hr
      rename News h₀ _ _ _ => kN
      rename Fr h₀ _ _ _ => kF
      rename News g' _ _ _ => gN
      rename Fr g' _ _ _ => gF
      rw [List.append_nil] at hrest
      subst hrest
      exact own_leave hret HN HG kF kN gF gN [(_, lst (ys ++ [.int 0 _]))] (all1 (by k_extra "own tup")) (all1 (by k_extra "own tup")) ⟨_, _, rfl, rfl, ints_snoc hys⟩
end Mine
end
section
open PySem PySem.W PyProof.Rows PySem.Spec PySem.Calls Lean Meta Elab Tactic
set_option Elab.async false
set_option maxRecDepth 100000
set_option maxHeartbeats 2000000
namespace Mine
open PyProof.Rows.LCg PyProof.Rows.LCt
theorem newsSub {h₀ h : Heap} {L : Addr} {news hid : List (Addr × Obj)} (N : News h₀ L h news) (hs : ∀ p ∈ hid, p ∈ news) : News h₀ L h hid := fun p hp => N p (hs p hp)
theorem leave_newsL {h₀ s₀ g' h' : Heap} {L L' : Addr} {news hid tl l l2 : List (Addr × Obj)} {m' : PySem.Str → Option Value} (N : News h₀ L s₀ news) (hs : ∀ p ∈ hid, p ∈ news) (G : GSub s₀ g' (hid.map (·.1))) (F' : Fr g' L' h' m') (gN : News g' L' h' l) (hl : ∀ p ∈ hid, p ∈ l) (kN : News h₀ L h' l2) (ht : ∀ p ∈ tl, p ∈ l2) : News h₀ L h' (tl ++ news) := by
  intro p hp
  rcases List.mem_append.mp hp with h | h
  · exact kN p (ht p h)
  · refine ⟨?_, (N p h).2⟩
    by_cases hm : p.1 ∈ hid.map (·.1)
    · obtain ⟨q, hq, e⟩ := List.mem_map.mp hm
      have h1 := (N p h).1
      have h2 := (N q (hs q hq)).1
      have e' : q.1 = p.1 := e
      rw [e', h1] at h2
      have h3 := (gN q (hl q hq)).1
      rw [e'] at h3
      rw [h3]; exact h2.symm
    · exact F'.keep _ _ (G _ _ (N p h).1 hm)
theorem leave_old {h₀ s₀ g' h' : Heap} {L L' : Addr} {news hid l : List (Addr × Obj)} (N : News h₀ L s₀ news) (G : GSub s₀ g' (hid.map (·.1))) (gN : News g' L' h' l) (hl : ∀ p ∈ hid, p ∈ l) {p : Addr × Obj} (hp : p ∈ l) : p ∈ hid ∨ ∀ q ∈ news, q.1 ≠ p.1 := by
  by_cases h : ∃ q ∈ news, q.1 = p.1
  · left
    obtain ⟨q, hq, e⟩ := h
    by_cases hm : q.1 ∈ hid.map (·.1)
    · obtain ⟨x, hx, ex⟩ := List.mem_map.mp hm
      have ex' : x.1 = p.1 := ex.trans e
      have h1 := (gN x (hl x hx)).1
      rw [ex', (gN p hp).1] at h1
      have : p = x := Prod.ext ex'.symm (Option.some.inj h1)
      rw [this]; exact hx
    · have h1 := G _ _ (N q hq).1 hm
      rw [e, (gN p hp).2.2] at h1
      cases h1
  · right
    exact fun q hq e => h ⟨q, hq, e⟩
theorem code_defCG {prog : Program} {w : World} {A A₀ : Around} {s : Shared} {h₀ base : Heap} {L : Addr} {m : PySem.Str → Option Value} {news : List (Addr × Obj)} {K : Frag} {p : Program} {loose : List PySem.Str} {mean : ExcName → Option Value} {mg mb : PySem.Str → Option Value} {env : Env} {outer : List Env} {R : Result → Shared → Prop} {name qual : PySem.Str} {params : Arguments} {body : List Stmt} {scope : Scope} {dV kV doc pm cdv ct oc : Value} {an od : Option Addr} {osl : Array (Option Value)} {f : Addr} {args : Args} {binds : List (PySem.Str × Value)}
    (B : Below A₀ base outer h₀) (F : Fr h₀ L s.heap m) (X₀ : K.In h₀) (N : News h₀ L s.heap news) (T : Top p loose mean mg mb h₀) (hA : A.frames = some (env :: outer)) (hf : env.frame = some L) (hke : env.scope.kind = .function)
    (ho : K.lookup f = some ⟨oc, od, .func (fnOf name qual params body scope dV kV doc pm an cdv ct), osl⟩) (hcd : codeIn K cdv qual = true) (hroom : A.depth < recursionLimit)
    (hbind : BindsTo s (fnOf name qual params body scope dV kV doc pm an cdv ct) args binds) (hkind : (binds.all fun y => scope.names.lookup y.1 == some .local || scope.names.lookup y.1 == some .cell) = true)
    (hnd : ((cellsFrom 0 scope.names []).map (·.1)).Nodup)
    (h : ∀ g L' h₁ tk cells, Fr h₀ L g m → Fr g L' h₁ (bindL (envOfC qual scope L' f cdv).kindOf binds fun _ => none) → News g L' h₁ (cells ++ news) →
      CellsAre (bindC (envOfC qual scope L' f cdv).kindOf binds fun _ => none) (cellsFrom (L' + 1) scope.names []) cells → Below A base (env :: outer) g → K.In g → Top p loose mean mg mb g → GSub s.heap g (news.map (·.1)) →
      wpAny (model prog w) (A.deeper (envOfC qual scope L' f cdv)) (execs body (envOfC qual scope L' f cdv))
        (fun fl s' => LeaveK h₀ L m g R (match fl with | .ret v => v | _ => .none) s')
        (fun e s' => wpAny (model prog w) (A.deeper (envOfC qual scope L' f cdv)) (PySem.«leaving» (envOfC qual scope L' f cdv) e) (fun _ s'' => R (.error e) s'') (fun e' s'' => R (.error e') s'') s')
        { s with heap := h₁, toks := tk })
    (hco : scope.isCoroutine = false) (hgen : scope.isGenerator = false) (hk : scope.kind = .function) : codeAny (model prog w) A (.call (.ref f) args) R s := by
  obtain ⟨FG, BG, st, lv⟩ := groundX (R := R) B F N hA hf hke
  refine codeAny_call_function (fd := fnOf name qual params body scope dV kV doc pm an cdv ct) hroom ((X₀.keeps F.keep) _ _ ho) rfl hco hgen rfl (codeRec_of (X₀.keeps F.keep) hcd) (hbind _ _ _ _ ?_)
  refine wpAny_newFunctionEnv_cells hk (kindsX hkind _) fun env' he s' x => ?_
  subst he
  refine ⟨(T.nolimit.keeps F.keep).keeps x.toInCall.keep, codeAny_func ?_⟩
  obtain ⟨h₁, tk, rfl, _⟩ := x.done
  have hk₁ := x.toInCall.keep
  obtain ⟨cells, NC, Y⟩ := Cl.news (h₀ := s.heap) (Nat.le_refl _) fun n c hm => ⟨x.cell n c (lookup_of_mem_nodup (cellsFrom_names scope.names 0 (s.heap.objs.size + 1) [] [] rfl ▸ hnd) hm), x.above n c hm⟩
  have NN : News (hideAll s.heap (news.map (·.1))) s.heap.objs.size h₁ (cells ++ news) := fun q hq => by
    rcases List.mem_append.mp hq with hq | hq
    · refine ⟨(NC q hq).1, (NC q hq).2.1, ?_⟩
      cases z : (hideAll s.heap (news.map (·.1))).get? q.1 with
      | none => rfl
      | some o => have := of_hideAll _ z; rw [(NC q hq).2.2] at this; cases this
    · exact ⟨hk₁ _ _ (N q hq).1, Nat.ne_of_lt (Heap.lt_size (N q hq).1), hideAll_none _ (List.mem_map_of_mem hq)⟩
  exact wpAny_mono (h _ s.heap.objs.size h₁ tk cells FG ⟨x.toInCall.ns, fun b o e => hk₁ b o (of_hideAll _ e), Nat.le_of_eq (hideAll_size _ _)⟩ NN Y BG (X₀.keeps st) (T.keeps st) (fun b o e n => hideAll_get _ e n)) (fun fl s' hl => lv _ _ hl) fun _ _ y => y
noncomputable abbrev colA (x : Int) (t : Tok × Tok × Tok) : Obj := colO (colF (x.fmod 768)) t.1 t.2.1 t.2.2
theorem good_fm (x : Int) : GoodC (colF (x.fmod 768)) (x.fmod 768) := good_col (Int.fmod_nonneg_of_pos x (by decide)) (Int.fmod_lt_of_pos x (by decide))
noncomputable abbrev P4 := Int × Int × Int × Int
noncomputable abbrev rotP (p : P4) : P4 := (p.2.2.2, p.1, p.2.1, p.2.2.1)
noncomputable abbrev ltP (p : P4) : P4 := (p.1, 2 * (p.2.1.fmod 768) - p.2.2.1.fmod 768, p.2.1, p.2.2.2)
noncomputable abbrev gtP (p : P4) : P4 := (p.1, p.2.2.1, 2 * (p.2.2.1.fmod 768) - p.2.1.fmod 768, p.2.2.2)
noncomputable abbrev addP (g : Int) (p : P4) : P4 := (p.1.fmod 768 + g, p.2.1.fmod 768 + g, p.2.2.1.fmod 768 + g, p.2.2.2.fmod 768 + g)
noncomputable def stepP (t : Int) (p : P4) : P4 :=
  if t = 17 then rotP p else if t = 47 then rotP (rotP p) else if t = 20 then ltP p else if t = 33 then ltP (ltP p) else if t = 21 then gtP p else if t = 34 then gtP (gtP p) else addP (t - 256) p
noncomputable def goodT (t : Int) : Prop := t = 17 ∨ t = 47 ∨ t = 20 ∨ t = 33 ∨ t = 21 ∨ t = 34 ∨ 256 ≤ t
noncomputable abbrev endsL (Ea b1 b2 b3 b4 : Addr) (n : Nat) (p : P4) (t1 t2 t3 t4 : Tok × Tok × Tok) : List (Addr × Obj) :=
  [(Ea, W.listOf #[.ref b1, .ref b2, .ref b3, .ref b4] n), (b1, colA p.1 t1), (b2, colA p.2.1 t2), (b3, colA p.2.2.1 t3), (b4, colA p.2.2.2 t4)]
inductive JD (l : List Int) (ar Dd cc : Addr) (od : Obj) (tail : List (Addr × Obj)) (p0 : P4) (n : Nat) (m' : PySem.Str → Option Value) (nw : List (Addr × Obj)) : Prop
  | mk (done rest : List Int) (Ea b1 b2 b3 b4 : Addr) (ne : Nat) (p : P4) (t1 t2 t3 t4 : Tok × Tok × Tok) (ti : Tok) (oc : Obj) (cv : Option Value) : m' (PySem.Str.ofString "row") = some (.ref ar) → m' (PySem.Str.ofString "ends") = some (.ref Ea) → m' (PySem.Str.ofString "deeds") = some (.ref Dd) → m' (PySem.Str.ofString "at") = some (.int (done.length : Nat) ti) →
    nw = (Ea, W.listOf #[.ref b1, .ref b2, .ref b3, .ref b4] ne) :: (b1, colA p.1 t1) :: (b2, colA p.2.1 t2) :: (b3, colA p.2.2.1 t3) :: (b4, colA p.2.2.2 t4) :: (Dd, od) :: (cc, oc) :: tail → oc.data = .cell cv →
    l = done ++ rest → p = done.foldl (fun p t => stepP t p) p0 → n = rest.length → JD l ar Dd cc od tail p0 n m' nw
theorem ints_at {i : Nat} {t : Int} : ∀ {vs : List Value} {ns : List Int} (k : Nat), IntsAre vs ns → ns[k]? = some t → ∃ u, vs[k]? = some (.int t u)
  | _, _, 0, .cons a u _, h => ⟨u, by simpa using h⟩
  | _, _, k + 1, .cons a u r, h => by
    obtain ⟨u', e⟩ := ints_at (i := i) k r (by simpa using h)
    exact ⟨u', by simpa using e⟩
  | _, _, _, .nil, h => by simp at h
theorem item_row {prog : Program} {w : World} {A : Around} {E : Value → Shared → Prop} {s : Shared} {value slice : PySem.Expr} {h₀ : Heap} {L D : Addr} {news : List (Addr × Obj)} {ys : List Value} {full : List Int} {k : Nat} {t : Int} {u : Tok} {Q : Value → Shared → Prop}
    {nr : Nat} (hi : IntsAre ys full) (hat : full[k]? = some t) (N : News h₀ L s.heap news) (hm : (D, W.listOf ys.toArray nr) ∈ news) (hk : full.length ≤ 1000) (h : ∀ t', Q (.int t t') s)
    (hs : subscripted slice false (.ref D) (.int (k : Nat) u) = operate [.ref D, .int (k : Nat) u] (getItem (.ref D) (.int (k : Nat) u))) :
    wpAny (model prog w) A (subscriptTail value slice (.ref D) (.int (k : Nat) u)) Q E s := by
  have hl : s.heap.IsList D ys.toArray := ⟨_, (N _ hm).1, rfl, _, rfl⟩
  obtain ⟨u', e⟩ := ints_at (i := k) k hi hat
  have hlt : k < full.length := (List.getElem?_eq_some_iff.mp hat).1
  exact tail_any hl.typeIs slot_list_getitem.lookup (wpAny_getItem_list hl (by omega) (by omega) (x := .int t u') (by simpa using e) (h u')) hs
theorem rowW110 : True := by
  k_with_none
  trivial
theorem rowW11T : True := by
  k_with "own tup" => first | assumption | exact List.Mem.head _ | (refine List.Mem.tail _ ?_; k_extra "own tup")
  trivial
theorem rowW111 : True := by
  k_with "subscriptTail Name Name ref int" => k_here; k_dflt (refine' item_row (hs := (by with_unfolding_all rfl)) (by assumption) (by assumption) (by k_asm) (by k_extra "own tup") (by assumption) ?_); intro _
  trivial
theorem ne_all {news r : List (Addr × Obj)} {D : Addr} {x : Obj} (hl : ∀ q ∈ news, ∀ p ∈ (D, x) :: r, q.1 ≠ p.1) : ∀ q ∈ news, @Ne Nat q.1 D := fun q hq => hl q hq _ (.head _)
section
variable {h₀ : Heap} {L I C D : Addr} {m : PySem.Str → Option Value} {s₁ : Shared} {oI oC oD : Obj} {S : List (Addr × Obj) → Prop} {rest : Value → List (Addr × Obj) → Prop} {y : Value} {h' : Heap} {tk : Nat} {d : Addr} {x : Obj} {news : List (Addr × Obj)}
theorem own_compEnd (F : Fr h₀ L h' m) (N : News h₀ L h' ((d, x) :: (I, oI) :: (C, oC) :: (D, oD) :: news)) (hl : (∀ q ∈ (I, oI) :: (C, oC) :: (D, oD) :: news, @Ne Nat q.1 d) ∨ (d, x) ∈ news) (off : LCg.Off3 I C D news) (hS : S ((d, x) :: news)) (r : rest y ((d, x) :: news)) :
    LCg.CompEnd h₀ L m s₁ I oI C oC D oD S rest y { s₁ with heap := h', toks := tk } :=
  LCg.CompEnd.intro F N ((d, x) :: news) (fun p hp => by
    simp only [List.mem_cons] at hp ⊢
    rcases hp with h | h | h | h | h <;> simp [h]) ⟨hl.elim (fun hl => ⟨fun e => hl _ (.head _) e.symm, fun e => hl _ (.tail _ (.head _)) e.symm, fun e => hl _ (.tail _ (.tail _ (.head _))) e.symm⟩) fun hm => off.mem _ hm, off⟩ hS r
end
theorem rowW112 : True := by
  k_with "CompEnd" => refine' own_compEnd (by assumption) (by assumption) (by assumption) (by assumption) (by lcg_src) ?_
  trivial
theorem rowW113 : True := by
  k_with "CompRest" => with_unfolding_all first   | (refine LCg.CompRest.succ ?_; intro v' I' oI' C' oC' D' m' h' tk' E' hv' hC' hx' F' N' off' ne'; lcg_open hv')   | refine LCg.CompRest.zero ?_
  trivial
theorem rowW114 : True := by
  k_with "own tm" => first | (with_reducible exact List.mem_cons_self) | ((with_reducible refine List.mem_cons_of_mem _ ?_); k_extra "own tm")
  trivial
theorem ne_of_all {l : List (Addr × Obj)} {D I : Addr} {it : Obj} (h : ∀ q ∈ l, @Ne Nat q.1 D) (hm : (I, it) ∈ l) : D ≠ I := fun e => h _ hm e.symm
theorem turn_new {g h : Heap} {L : Addr} {p1 p2 p3 x y : Addr × Obj} {tl rest : List (Addr × Obj)} (N : News g L h (tl ++ p1 :: p2 :: p3 :: rest)) (hl : ∀ q ∈ p1 :: p2 :: p3 :: rest, ∀ p ∈ tl, q.1 ≠ p.1) (hm : y ∈ rest) (f : x ∈ tl ∨ x ∈ [y]) : News g L h (x :: p1 :: p2 :: p3 :: rest) ∧ ((∀ q ∈ p1 :: p2 :: p3 :: rest, @Ne Nat q.1 x.1) ∨ x ∈ rest) := by
  rcases f with f | f
  · exact ⟨fun q hq => N q ((List.mem_cons.mp hq).elim (fun e => List.mem_append.mpr (.inl (e ▸ f))) fun h => List.mem_append.mpr (.inr h)), .inl fun q hq => hl q hq _ f⟩
  · have hx : x ∈ rest := List.mem_singleton.mp f ▸ hm
    exact ⟨fun q hq => N q (List.mem_append.mpr (.inr ((List.mem_cons.mp hq).elim (fun e => e ▸ .tail _ (.tail _ (.tail _ hx))) id))), .inr hx⟩
theorem rowW115 : True := by
  k_with "call ref" => k_here; (with_reducible show wpAny _ _ (call (Value.ref 170) _) _ _ _); k_dflt (refine' cl_use (by k_asm) (by k_asm) (by k_asm) (by k_asm) (by k_asm) (by first | exact rfl | assumption) (by ktr_room) (by ktr_units) (cl_col (turnedS _ _ _ _) ⟨_, _, _, rfl, good_fm _, rfl⟩ (.cons (col_rep (.head _)) (.cons (.int _ _) .nil))) (all1 (by k_extra "own tm")) ?_); rintro _ tl9 h9 tk9 F9 N9 hl9 ⟨D9, u1, u2, u3, f9⟩; (replace N9 := turn_new N9 hl9 (by k_extra "own tm") f9); clear f9 hl9; (have hl9 := N9.2); (replace N9 := N9.1); (try dsimp only); (try k_fold)
  trivial
theorem iseof (w mean mg mb) (x : Int) (tk : Tok) : Cl w mean mg mb 137 1 [.int x tk] (fun _ => True) (fun _ tl v => v = .bool (decide (x = 0)) ∧ tl = []) := by
  unfold Cl; k_fill
  intro dp un gd cn cs a ccd cl outer A₀ base h₀ L m news s Q E B F X N T hk hd hu hP hret
  refine wpAny_call ?_
  k_dflt ktr_enter
  k_steps
  all_goals exact hret _ [] _ _ (by k_asm) (by k_asm) (fun _ _ _ h => nomatch h) ⟨rfl, rfl⟩
theorem isterm (w mean mg mb) (x : Int) (tk : Tok) : Cl w mean mg mb 130 1 [.int x tk] (fun _ => True) (fun _ tl v => v = .bool (decide (x < 256)) ∧ tl = []) := by
  unfold Cl; k_fill
  intro dp un gd cn cs a ccd cl outer A₀ base h₀ L m news s Q E B F X N T hk hd hu hP hret
  refine wpAny_call ?_
  k_dflt ktr_enter
  k_steps
  all_goals exact hret _ [] _ _ (by k_asm) (by k_asm) (fun _ _ _ h => nomatch h) ⟨rfl, rfl⟩
theorem rowW116 : True := by
  k_with "call ref" => k_here; (with_reducible show wpAny _ _ (call (Value.ref 137) _) _ _ _); k_dflt ((refine' cl_use (by k_asm) (by k_asm) (by k_asm) (by k_asm) (by k_asm) (by first | exact rfl | assumption) (by ktr_room) (by ktr_units) (iseof _ _ _ _ _ _) (by first | trivial | assumption) ?_)); rintro _ _ h9 tk9 F9 N9 hl9 ⟨e9, f9⟩; subst e9; subst f9; (try simp only [List.nil_append] at N9); (try dsimp only); (try k_fold)
  trivial
theorem rowW117 : True := by
  k_with "call ref" => k_here; (with_reducible show wpAny _ _ (call (Value.ref 130) _) _ _ _); k_dflt ((refine' cl_use (by k_asm) (by k_asm) (by k_asm) (by k_asm) (by k_asm) (by first | exact rfl | assumption) (by ktr_room) (by ktr_units) (isterm _ _ _ _ _ _) (by first | trivial | assumption) ?_)); rintro _ _ h9 tk9 F9 N9 hl9 ⟨e9, f9⟩; subst e9; subst f9; (try simp only [List.nil_append] at N9); (try dsimp only); (try k_fold)
  trivial
theorem rowW118 : True := by
  k_with "exec While UnaryOp cons nil" => refine Hid.out ?_
  trivial
theorem rowW119 : True := by
  k_with "WhileStep" => refine Hid.out ?_
  trivial
theorem reorder8 {g h : Heap} {L : Addr} {x y r e c1 c2 c3 c4 : Addr × Obj} (N : News g L h [x, y, r, e, c1, c2, c3, c4]) : News g L h [e, c1, c2, c3, c4, x, y, r, e, c1, c2, c3, c4] := by
  intro p hp
  simp only [List.mem_cons, List.not_mem_nil, or_false] at hp
  refine N p ?_
  simp only [List.mem_cons, List.not_mem_nil, or_false]
  rcases hp with h | h | h | h | h | h | h | h | h | h | h | h | h <;> simp [h]
theorem stepP_big {t : Int} {p : P4} (h : 256 ≤ t) : stepP t p = addP (t - 256) p := by
  unfold stepP
  rw [if_neg (by omega), if_neg (by omega), if_neg (by omega), if_neg (by omega), if_neg (by omega), if_neg (by omega)]
theorem jd_next {l : List Int} {ar Dd cc : Addr} {od oc' : Obj} {tail : List (Addr × Obj)} {p0 p p' : P4} {dn rest : List Int} {t : Int} {g' h : Heap} {L : Addr} {s : Shared} {tk : Nat} {m' : PySem.Str → Option Value} {nw : List (Addr × Obj)} {Ea b1 b2 b3 b4 : Addr} {ne : Nat} {v11 v12 v13 v21 v22 v23 v31 v32 v33 v41 v42 v43 : Tok} {ti : Tok} {cv : Option Value}
    (kF : Fr g' L h m') (kN : News g' L h nw) (hp' : p' = stepP t p) (hp : p = dn.foldl (fun p t => stepP t p) p0) (hrest : l = dn ++ t :: rest)
    (e1 : m' (PySem.Str.ofString "row") = some (.ref ar)) (e2 : m' (PySem.Str.ofString "ends") = some (.ref Ea)) (e3 : m' (PySem.Str.ofString "deeds") = some (.ref Dd)) (e4 : m' (PySem.Str.ofString "at") = some (.int ((dn.length : Nat) + 1) ti))
    (mE : (Ea, W.listOf #[.ref b1, .ref b2, .ref b3, .ref b4] ne) ∈ nw) (m1 : (b1, colO (colF (p'.1.fmod 768)) v11 v12 v13) ∈ nw) (m2 : (b2, colO (colF (p'.2.1.fmod 768)) v21 v22 v23) ∈ nw) (m3 : (b3, colO (colF (p'.2.2.1.fmod 768)) v31 v32 v33) ∈ nw) (m4 : (b4, colO (colF (p'.2.2.2.fmod 768)) v41 v42 v43) ∈ nw)
    (mD : (Dd, od) ∈ nw) (mc : (cc, oc') ∈ nw) (hoc : oc'.data = .cell cv) (mt : ∀ q ∈ tail, q ∈ nw) :
    Hid (WhileStep g' L s (JD l ar Dd cc od tail p0) (t :: rest).length .next { s with heap := h, toks := tk }) := by
  refine Hid.mk (WhileStep.intro (n' := rest.length) (news₂ := (Ea, W.listOf #[.ref b1, .ref b2, .ref b3, .ref b4] ne) :: (b1, colA p'.1 (v11, v12, v13)) :: (b2, colA p'.2.1 (v21, v22, v23)) :: (b3, colA p'.2.2.1 (v31, v32, v33)) :: (b4, colA p'.2.2.2 (v41, v42, v43)) :: (Dd, od) :: (cc, oc') :: tail) kF (newsSub kN fun q hq => ?_) (Nat.lt_succ_self _) ?_)
  · simp only [List.mem_cons] at hq
    rcases hq with rfl | rfl | rfl | rfl | rfl | rfl | rfl | hq
    · exact mE
    · exact m1
    · exact m2
    · exact m3
    · exact m4
    · exact mD
    · exact mc
    · exact mt q hq
  · refine ⟨dn ++ [t], rest, Ea, b1, b2, b3, b4, ne, p', _, _, _, _, ti, oc', cv, e1, e2, e3, ?_, rfl, hoc, ?_, ?_, rfl⟩
    · rw [e4, List.length_append, List.length_singleton]; rfl
    · rw [hrest, List.append_assoc]; rfl
    · rw [List.foldl_append, ← hp, hp']; rfl
noncomputable def notCell (o : Obj) : Bool := match o.data with | .cell _ => false | _ => true
theorem dict_nc {prog : Program} {w : World} {K : Type} [DecidableEq K] {knd : KeyKind prog w K} {o : Obj} {kvs : List (K × Value)} (h : o.IsDictOf knd kvs) : notCell o = true := by
  obtain ⟨es, ep, _, h, _⟩ := h
  unfold notCell; rw [h]
section
variable {M : Model} {A : Around} {E : Value → Shared → Prop} {s : Shared} {h₀ : Heap} {L a : Addr} {m : PySem.Str → Option Value} {cn : PySem.Str} {cs : Scope} {ccd : Value} {cl : List (PySem.Str × Addr)}
  {x : PySem.Str} {v : Value} {Q : Unit → Shared → Prop} {c : Addr} {o : Obj} {v₀ : Option Value} {e0 e1 e2 e3 e4 e5 : Addr × Obj} {tail : List (Addr × Obj)}
theorem own_storeCell (F : Fr h₀ L s.heap m) (N : News h₀ L s.heap (e0 :: e1 :: e2 :: e3 :: e4 :: e5 :: (c, o) :: tail)) (hc : cl.lookup x = some c) (hd : o.data = .cell v₀)
    (hn : ∀ p ∈ e0 :: e1 :: e2 :: e3 :: e4 :: e5 :: tail, notCell p.2 = true)
    (h : ∀ h' o', Fr h₀ L h' m → News h₀ L h' (e0 :: e1 :: e2 :: e3 :: e4 :: e5 :: (c, o') :: tail) → o'.data = .cell (some v) → Q () { s with heap := h' })
    (hk : cs.kind = .function) (hx : (envX cn cs L a ccd cl).kindOf x = some .cell) : wpAny M A (storeName (envX cn cs L a ccd cl) x v) Q E s := by
  have hmem := N (c, o) (by simp)
  refine wpAny_storeName_cell hk hx hc ⟨o, hmem.1, hd⟩ fun h' hv hs => ?_
  obtain ⟨o', ho', hd'⟩ := hv
  have keepE : ∀ p ∈ e0 :: e1 :: e2 :: e3 :: e4 :: e5 :: tail, h'.get? p.1 = some p.2 ∧ p.1 ≠ L ∧ h₀.get? p.1 = none := fun p hp => by
    have hp' : p ∈ e0 :: e1 :: e2 :: e3 :: e4 :: e5 :: (c, o) :: tail := by
      simp only [List.mem_cons] at hp ⊢
      rcases hp with h | h | h | h | h | h | h <;> simp [h]
    have z := N p hp'
    refine ⟨(hs.2 p.1 fun q => ?_).trans z.1, z.2⟩
    have w := hn p hp
    have : p.2 = o := by
      have z1 := z.1
      rw [q, hmem.1] at z1
      exact (Option.some.inj z1).symm
    rw [this] at w
    unfold notCell at w
    rw [hd] at w
    cases w
  refine h h' o' ⟨F.ns.sameBut hs (Ne.symm hmem.2.1), fun b ob e => (hs.2 b (fun q => ?_)).trans (F.keep b ob e), F.above⟩ (fun p hp => ?_) hd'
  · rw [q, hmem.2.2] at e; cases e
  · simp only [List.mem_cons] at hp
    rcases hp with h | h | h | h | h | h | h | h
    · exact keepE p (by simp [h])
    · exact keepE p (by simp [h])
    · exact keepE p (by simp [h])
    · exact keepE p (by simp [h])
    · exact keepE p (by simp [h])
    · exact keepE p (by simp [h])
    · rw [h]; exact ⟨ho', hmem.2⟩
    · exact keepE p (by simp [h])
end
theorem rowW1110 : True := by
  k_with "own nc" => first | exact List.forall_mem_nil _ | (refine List.forall_mem_cons.mpr ⟨(by first | with_unfolding_all rfl | assumption), ?_⟩; k_extra "own nc")
  trivial
theorem rowW1111 : True := by
  k_with "storeName" => k_here; k_dflt (refine' own_storeCell (by k_asm) (by k_asm) (by exact rfl) (by assumption) (by k_extra "own nc") ?_ (by exact rfl) (by exact rfl)); intro h8 o8 F8 N8 d8
  trivial
noncomputable abbrev svA (x : Int) : SV := svC (colF (x.fmod 768))
noncomputable abbrev lst4 (p : P4) : SV := .lst [svA p.1, svA p.2.1, svA p.2.2.1, svA p.2.2.2]
inductive EndsRep (N : Led) (p : P4) (v : Value) : Prop
  | mk (Ea b1 b2 b3 b4 : Addr) (n : Nat) (t1 t2 t3 t4 : Tok × Tok × Tok) : v = .ref Ea → (∀ q ∈ endsL Ea b1 b2 b3 b4 n p t1 t2 t3 t4, q ∈ N) → EndsRep N p v
theorem rep_ends {N : Led} {p : P4} {v : Value} (h : Rep N (lst4 p) v) : EndsRep N p v := by
  rcases h with _ | _ | _ | _ | _ | _ | ⟨Ea, vs, _, n, hm, hr⟩
  rcases hr with _ | ⟨c1, _ | ⟨c2, _ | ⟨c3, _ | ⟨c4, c5⟩⟩⟩⟩
  cases c5
  obtain ⟨a1, x1, y1, z1, rfl, k1⟩ := rep_col c1
  obtain ⟨a2, x2, y2, z2, rfl, k2⟩ := rep_col c2
  obtain ⟨a3, x3, y3, z3, rfl, k3⟩ := rep_col c3
  obtain ⟨a4, x4, y4, z4, rfl, k4⟩ := rep_col c4
  refine ⟨Ea, a1, a2, a3, a4, n, (x1, y1, z1), (x2, y2, z2), (x3, y3, z3), (x4, y4, z4), rfl, ?_⟩
  exact List.forall_mem_cons.mpr ⟨hm, List.forall_mem_cons.mpr ⟨k1, List.forall_mem_cons.mpr ⟨k2, List.forall_mem_cons.mpr ⟨k3, List.forall_mem_cons.mpr ⟨k4, fun _ h => nomatch h⟩⟩⟩⟩⟩
theorem ends_rep {N : Led} {p : P4} {Ea b1 b2 b3 b4 : Addr} {n : Nat} {t1 t2 t3 t4 : Tok × Tok × Tok} (h : ∀ q ∈ endsL Ea b1 b2 b3 b4 n p t1 t2 t3 t4, q ∈ N) : Rep N (lst4 p) (.ref Ea) :=
  .lst Ea [.ref b1, .ref b2, .ref b3, .ref b4] _ n (h _ (.head _)) (.cons (col_rep (h _ (.tail _ (.head _)))) (.cons (col_rep (h _ (.tail _ (.tail _ (.head _))))) (.cons (col_rep (h _ (.tail _ (.tail _ (.tail _ (.head _)))))) (.cons (col_rep (h _ (.tail _ (.tail _ (.tail _ (.tail _ (.head _))))))) .nil))))
noncomputable def sigD (p : P4) (ar Dd : Addr) (i : Int) : Vs := [("ends", lst4 p), ("row", .raw (.ref ar)), ("deeds", .raw (.ref Dd)), ("at", .int i)]
noncomputable def kDeed (p : P4) (ar Dd : Addr) (i : Int) : KT := fun r ow σ => r = none ∧ ow = [] ∧ σ.lookup (PySem.Str.ofString "ends") = some (lst4 p) ∧ σ.lookup (PySem.Str.ofString "row") = some (.raw (.ref ar)) ∧ σ.lookup (PySem.Str.ofString "deeds") = some (.raw (.ref Dd)) ∧ σ.lookup (PySem.Str.ofString "at") = some (.int i)
theorem Vars.pick {P : Par} {F : Led} {m : PySem.Str → Option Value} {σ σ' : Vs} {x : PySem.Str} {sv : SV} (hV : Vars F (rdv P m) σ) (e : σ.lookup x = some sv) (h : Vars F (rdv P m) σ') : Vars F (rdv P m) ((x, sv) :: σ') := by
  intro y u e'
  rw [List.lookup_cons] at e'
  cases hb : (y == x) with
  | true =>
    rw [hb] at e'; cases e'
    rw [eq_of_beq hb]
    exact hV x _ e
  | false => rw [hb] at e'; exact h y u e'
theorem deed_turn {w : World} {mean : ExcName → Option Value} {mg mb : PySem.Str → Option Value} {dp un : Nat} {gd : Option (List Code)} {cn : PySem.Str} {cs : Scope} {a : Addr} {ccd : Value} {cl : List (PySem.Str × Addr)} {outer : List Env} {g : Heap} {L : Addr} {W : Led} {m : PySem.Str → Option Value} {s : Shared} {P : Par} {E : Value → Shared → Prop} {Qx Qw : Flow → Shared → Prop} {body : List Stmt} {aug : Stmt} {tx : PySem.Str} {t : Tok} {p p' : P4} {ar Dd Ea b1 b2 b3 b4 : Addr} {n0 : Nat} {t1 t2 t3 t4 : Tok × Tok × Tok} {i : Int} {ti : Tok}
    (ok : ParOK P w (ktrTop dp un gd cn cs L a ccd cl outer) (envX cn cs L a ccd cl) g L W) (hk : cs.kind = .function) (X : (KF w.params).In g) (T : Top QV LO mean mg mb g) (hE : PassesOwn (model PySem.Challenge.rw_wf0099_01.prog w) (ktrTop dp un gd cn cs L a ccd cl outer) (envX cn cs L a ccd cl) E) (hfl : P.fl = false) (kx : P.kd "deed" = some .local) (k1 : P.kd "ends" = some .local) (k2 : P.kd "row" = some .local) (k3 : P.kd "deeds" = some .local) (k4 : P.kd "at" = some .local)
    (hVC : gFor (gS P 40) "deed" body (chs tx) [] (sigD p ar Dd i) (kDeed p' ar Dd i)) (hAug : gS P 9 [aug] [] (sigD p' ar Dd i) (kDeed p' ar Dd (i + 1)))
    (F1 : Fr g L s.heap m) (N1 : News g L s.heap W) (hends : ∀ q ∈ endsL Ea b1 b2 b3 b4 n0 p t1 t2 t3 t4, q ∈ W) (e1 : m "ends" = some (.ref Ea)) (e2 : m "row" = some (.ref ar)) (e3 : m "deeds" = some (.ref Dd)) (e4 : m "at" = some (.int i ti))
    (hQx : ∀ s', wpAny (model PySem.Challenge.rw_wf0099_01.prog w) (ktrTop dp un gd cn cs L a ccd cl outer) (execs [aug] (envX cn cs L a ccd cl)) Qw E s' → Qx .next s')
    (hQ : ∀ h' tk m' nw Ea b1 b2 b3 b4 n t1 t2 t3 t4 ti, Fr g L h' m' → News g L h' nw → (∀ q ∈ W, q ∈ nw) → (∀ q ∈ endsL Ea b1 b2 b3 b4 n p' t1 t2 t3 t4, q ∈ nw) → m' "ends" = some (.ref Ea) → m' "row" = some (.ref ar) → m' "deeds" = some (.ref Dd) → m' "at" = some (.int (i + 1) ti) → Qw .next { s with heap := h', toks := tk }) :
    wpAny (model PySem.Challenge.rw_wf0099_01.prog w) (ktrTop dp un gd cn cs L a ccd cl outer) (pyIter (.str tx t)) (fun it s₂ => LoopAtV PySem.Challenge.rw_wf0099_01.prog w (ktrTop dp un gd cn cs L a ccd cl outer) g (envX cn cs L a ccd cl) "deed" body Qx E it s₂) E s := by
  have tp : ∀ n, TP P n := fun n e => by rw [hfl] at e; cases e
  have rd : ∀ x m, P.kd x = some .local → rdv P m x = m x := fun x m h => by unfold rdv; rw [h]
  have H : HS g L W s.heap m (endsL Ea b1 b2 b3 b4 n0 p t1 t2 t3 t4) [] := ⟨F1, fun q hq => N1 q ((List.mem_append.mp (show q ∈ endsL Ea b1 b2 b3 b4 n0 p t1 t2 t3 t4 ++ W from hq)).elim (hends q) id), fun _ h => (nomatch h), .nil⟩
  refine strAt (O := []) (ow := []) hfl (gS_sound ok hk X T hE 40) kx H (vars_cons k1 e1 (ends_rep fun q hq => hq) (vars_cons k2 e2 (.raw _) (vars_cons k3 e3 (.raw _) (vars_cons k4 e4 (.int _ _) vars_nil)))) .nil (fun _ _ h => nomatch h) hVC ?_
  rintro h6 tk6 m6 tl6 O6 ow6 σ6 r6 fl6 _ H6 ap6 hV6 hO6 hw6 ⟨rfl, rfl, c1, c2, c3, c4⟩ hrr
  cases hrr
  cases hO6
  refine hQx _ ?_
  refine gS_sound ok hk X T hE 9 W (fun _ h => h) _ _ m6 _ [] [] (sigD p' ar Dd i) _ _ hAug (tp _) H6 (hV6.pick c1 (hV6.pick c2 (hV6.pick c3 (hV6.pick c4 vars_nil)))) .nil (fun _ _ h => nomatch h) ?_
  rintro h7 tk7 m7 tl7 O7 ow7 σ7 r7 fl7 _ H7 ap7 hV7 hO7 hw7 ⟨rfl, rfl, d1, d2, d3, d4⟩ hrr
  cases hrr
  obtain ⟨v1, g1, r1⟩ := hV7 _ _ d1
  obtain ⟨v2, g2, r2⟩ := hV7 _ _ d2
  obtain ⟨v3, g3, r3⟩ := hV7 _ _ d3
  obtain ⟨v4, g4, r4⟩ := hV7 _ _ d4
  rw [rd _ _ k1] at g1; rw [rd _ _ k2] at g2; rw [rd _ _ k3] at g3; rw [rd _ _ k4] at g4
  cases r2; cases r3; cases r4
  obtain ⟨Eb, x1, x2, x3, x4, n9, y1, y2, y3, y4, rfl, hh⟩ := rep_ends r1
  exact hQ h7 tk7 m7 _ Eb x1 x2 x3 x4 n9 y1 y2 y3 y4 _ H7.fr H7.nw (fun q hq => by simp [hq]) (fun q hq => List.mem_append.mpr (.inr (List.mem_append.mpr (.inl (hh q hq))))) g1 g2 g3 g4
theorem deed_turnM {w : World} {mean : ExcName → Option Value} {mg mb : PySem.Str → Option Value} {dp un : Nat} {gd : Option (List Code)} {cn : PySem.Str} {cs : Scope} {a : Addr} {ccd : Value} {cl : List (PySem.Str × Addr)} {outer : List Env} {g : Heap} {L : Addr} {W : Led} {m : PySem.Str → Option Value} {s : Shared} {E : Value → Shared → Prop} {Qx Qw : Flow → Shared → Prop} {body : List Stmt} {aug : Stmt} {tx : PySem.Str} {t : Tok} {p p' : P4} {ar Dd Ea b1 b2 b3 b4 : Addr} {n0 : Nat} {t1 t2 t3 t4 : Tok × Tok × Tok} {i : Int} {ti : Tok}
    (ok : ParOK (parM (envX cn cs L a ccd cl) [(163, spMirror)] noCv noCm false) w (ktrTop dp un gd cn cs L a ccd cl outer) (envX cn cs L a ccd cl) g L W) (hk : cs.kind = .function) (X : (KF w.params).In g) (T : Top QV LO mean mg mb g) (hE : PassesOwn (model PySem.Challenge.rw_wf0099_01.prog w) (ktrTop dp un gd cn cs L a ccd cl outer) (envX cn cs L a ccd cl) E) (hfl : (parM (envX cn cs L a ccd cl) [(163, spMirror)] noCv noCm false).fl = false) (kx : (parM (envX cn cs L a ccd cl) [(163, spMirror)] noCv noCm false).kd "deed" = some .local) (k1 : (parM (envX cn cs L a ccd cl) [(163, spMirror)] noCv noCm false).kd "ends" = some .local) (k2 : (parM (envX cn cs L a ccd cl) [(163, spMirror)] noCv noCm false).kd "row" = some .local) (k3 : (parM (envX cn cs L a ccd cl) [(163, spMirror)] noCv noCm false).kd "deeds" = some .local) (k4 : (parM (envX cn cs L a ccd cl) [(163, spMirror)] noCv noCm false).kd "at" = some .local)
    (hVC : gFor (gS (parM (envX cn cs L a ccd cl) [(163, spMirror)] noCv noCm false) 40) "deed" body (chs tx) [] (sigD p ar Dd i) (kDeed p' ar Dd i)) (hAug : gS (parM (envX cn cs L a ccd cl) [(163, spMirror)] noCv noCm false) 9 [aug] [] (sigD p' ar Dd i) (kDeed p' ar Dd (i + 1)))
    (F1 : Fr g L s.heap m) (N1 : News g L s.heap W) (hends : ∀ q ∈ endsL Ea b1 b2 b3 b4 n0 p t1 t2 t3 t4, q ∈ W) (e1 : m "ends" = some (.ref Ea)) (e2 : m "row" = some (.ref ar)) (e3 : m "deeds" = some (.ref Dd)) (e4 : m "at" = some (.int i ti))
    (hQx : ∀ s', wpAny (model PySem.Challenge.rw_wf0099_01.prog w) (ktrTop dp un gd cn cs L a ccd cl outer) (execs [aug] (envX cn cs L a ccd cl)) Qw E s' → Qx .next s')
    (hQ : ∀ h' tk m' nw Ea b1 b2 b3 b4 n t1 t2 t3 t4 ti, Fr g L h' m' → News g L h' nw → (∀ q ∈ W, q ∈ nw) → (∀ q ∈ endsL Ea b1 b2 b3 b4 n p' t1 t2 t3 t4, q ∈ nw) → m' "ends" = some (.ref Ea) → m' "row" = some (.ref ar) → m' "deeds" = some (.ref Dd) → m' "at" = some (.int (i + 1) ti) → Qw .next { s with heap := h', toks := tk }) :
    wpAny (model PySem.Challenge.rw_wf0099_01.prog w) (ktrTop dp un gd cn cs L a ccd cl outer) (pyIter (.str tx t)) (fun it s₂ => LoopAtV PySem.Challenge.rw_wf0099_01.prog w (ktrTop dp un gd cn cs L a ccd cl outer) g (envX cn cs L a ccd cl) "deed" body Qx E it s₂) E s := deed_turn ok hk X T hE hfl kx k1 k2 k3 k4 hVC hAug F1 N1 hends e1 e2 e3 e4 hQx hQ
theorem rowW1112 : True := by
  k_with "pyIter str" => refine Hid.out ?_
  trivial
theorem rowW1113 : True := by
  k_with "exec For Name Subscript cons nil" => refine Hid.out ?_
  trivial
noncomputable def deedT (t : Int) : PySem.Str := if t = 17 then "/" else if t = 47 then "//" else if t = 20 then "<" else if t = 33 then "<<" else if t = 21 then ">" else ">>"
noncomputable abbrev deedD : List (PyData × PyData) := [(.int 17, .str "/"), (.int 47, .str "//"), (.int 20, .str "<"), (.int 33, .str "<<"), (.int 21, .str ">"), (.int 34, .str ">>")]
noncomputable abbrev sixT (t : Int) : Prop := t = 17 ∨ t = 47 ∨ t = 20 ∨ t = 33 ∨ t = 21 ∨ t = 34
theorem deed_at {t : Int} (h : sixT t) : PySem.Spec.lookup (.int t) deedD = some (.str (deedT t)) := by
  rcases h with rfl | rfl | rfl | rfl | rfl | rfl <;> rfl
theorem six_deed {p : P4} {R : PySem.Str → P4 → Prop} {t : Int} (h : sixT t) (h17 : R "/" (rotP p)) (h47 : R "//" (rotP (rotP p))) (h20 : R "<" (ltP p)) (h33 : R "<<" (ltP (ltP p))) (h21 : R ">" (gtP p)) (h34 : R ">>" (gtP (gtP p))) : R (deedT t) (stepP t p) := by
  rcases h with rfl | rfl | rfl | rfl | rfl | rfl
  · exact h17
  · exact h47
  · exact h20
  · exact h33
  · exact h21
  · exact h34
theorem item_deed {prog : Program} {w : World} {A : Around} {E : Value → Shared → Prop} {s : Shared} {d : Addr} {value slice : PySem.Expr} {t : Int} {u : Tok} {Q : Value → Shared → Prop} (ht : sixT t) (T : IntTab prog w s.heap d deedD)
    (h : ∀ u', Q (.str (deedT t) u') { s with toks := s.toks + 1 })
    (hs : subscripted slice false (.ref d) (.int t u) = operate [.ref d, .int t u] (getItem (.ref d) (.int t u)) ) (hg : ∀ r, letTemporaryGo value (.ref d) r = pure ()) :
    wpAny (model prog w) A (subscriptTail value slice (.ref d) (.int t u)) Q E s :=
  item_intTab T (deed_at ht) (fun v hv => by obtain ⟨u', rfl⟩ := hv.str_inv; exact h u') hs hg
theorem rowW11d : True := by
  k_with "subscriptTail" => k_here; (with_reducible show wpAny _ _ (subscriptTail (Expr.Name (PySem.Str.ofString "deeds") _) _ (Value.ref _) (Value.int _ _)) _ _ _); k_dflt (refine item_deed (by assumption) (TabAt.ofNews (by k_asm) (by k_extra "own tm") (by assumption) (by assumption) (by assumption)) ?_ (by with_unfolding_all rfl) (by intro _; with_unfolding_all rfl)); intro _
  trivial
theorem done (w mean mg mb) (l : List Int) (hl : ∀ t ∈ l, goodT t) (hn : l.length ≤ 500) (ys : List Value) (hys : IntsAre ys (l ++ [0])) (ar ae a1 a2 a3 a4 : Addr) (nr n0 : Nat) (p0 : P4) (t1 t2 t3 t4 : Tok × Tok × Tok)
    (dp un : Nat) (gd : Option (List Code)) (cn : PySem.Str) (cs : Scope) (a : Addr) (ccd : Value) (cl : List (PySem.Str × Addr)) (outer : List Env) (A₀ : Around) (base h₀ : Heap) (L : Addr) (m : PySem.Str → Option Value) (news : List (Addr × Obj)) (s : Shared) (Q E : Value → Shared → Prop)
    (B : Below A₀ base outer h₀) (F : Fr h₀ L s.heap m) (X : (KF w.params).In h₀) (N : News h₀ L s.heap news) (T : Top QV LO mean mg mb h₀) (hk : cs.kind = .function) (hd : dp + 8 < recursionLimit) (hu : un + 8 * 8 < cLine)
    (hP : ∀ p ∈ (ar, W.listOf ys.toArray nr) :: endsL ae a1 a2 a3 a4 n0 p0 t1 t2 t3 t4, p ∈ news)
    (hret : ∀ h' tk' Ea b1 b2 b3 b4 ne u1 u2 u3 u4, Fr h₀ L h' m → News h₀ L h' (endsL Ea b1 b2 b3 b4 ne (l.foldl (fun p t => stepP t p) p0) u1 u2 u3 u4 ++ news) → (∀ p ∈ endsL Ea b1 b2 b3 b4 ne (l.foldl (fun p t => stepP t p) p0) u1 u2 u3 u4, p ∈ (ar, W.listOf ys.toArray nr) :: endsL ae a1 a2 a3 a4 n0 p0 t1 t2 t3 t4 ∨ ∀ q ∈ news, q.1 ≠ p.1) → Q (.ref Ea) { s with heap := h', toks := tk' }) :
    wpAny (model PySem.Challenge.rw_wf0099_01.prog w) (ktrTop dp un gd cn cs L a ccd cl outer) (call (.ref 175) [.ref ar, .ref ae]) Q E s := by
  revert X
  k_fill
  intro X
  refine wpAny_call ?_
  k_dflt (refine' code_defCG ?k1 ?k2 ?k3 (newsSub ?k4 hP) ?k5 ?kA ?kF ?kK ?k6 ?k7 ?k8 ?k9 ?kB ?kD ?_ ?c2 ?c3 ?c4; (case kA => exact rfl); (case kF => exact rfl); (case kK => assumption); (case k1 => k_asm); (case k2 => k_asm); (case k3 => k_asm); (case k4 => k_asm); (case k5 => k_asm); (case k6 => k_is); (case k7 => k_is); (case k8 => ktr_room); (case k9 => exact BindsTo.of_eq rfl); (case kB => exact rfl); (case kD => decide +kernel); (case c2 => exact rfl); (case c3 => exact rfl); (case c4 => exact rfl); k_whole)
  intro g' L' h' tk' cells' FG' F' N' Y' B' X' T' G'
  k_cells Y'
  try simp only [List.cons_append, List.nil_append] at N'
  have HN := Hid.mk N
  have HG := Hid.mk G'
  clear N G'
  try dsimp only
  try k_fold
  k_steps
  · refine Hid.mk ?_
    rename Fr g' _ _ _ => F9
    rename News g' _ _ _ => N9
    have N8 := reorder8 N9
    rename Obj.IsDictOf _ _ _ => hdict
    have hod := dict_nc hdict
    refine While_inv (JD l ar _ _ _ ((ar, W.listOf ys.toArray nr) :: endsL ae a1 a2 a3 a4 n0 p0 t1 t2 t3 t4) p0) F9 N8 ⟨[], l, ae, a1, a2, a3, a4, n0, p0, t1, t2, t3, t4, _, _, _, by with_unfolding_all rfl, by with_unfolding_all rfl, by with_unfolding_all rfl, by with_unfolding_all rfl, rfl, by assumption, rfl, rfl, rfl⟩ ?_
    clear F9 N9 N8
    rintro n m₁ nw h₁ tk₁ F₁ N₁ ⟨dn, rest, Ea, b1, b2, b3, b4, ne, p, u1, u2, u3, u4, ti, oc, cv, er, ee, ed, et, rfl, hoc, hrest, hp, rfl⟩
    have F₂ := fr_ins (fr_ins (fr_ins (fr_ins F₁ er rfl) ee (ins_eq er rfl)) ed (ins_eq ee (ins_eq er rfl))) et (ins_eq ed (ins_eq ee (ins_eq er rfl)))
    clear F₁
    try k_fold
    have hf5 : (l ++ [0]).length ≤ 1000 := by rw [List.length_append, List.length_singleton]; omega
    cases rest with
    | nil =>
      have hat : (l ++ [0])[dn.length]? = some 0 := by rw [hrest]; simp
      k_steps
      rename News h₀ _ _ _ => kN
      rename Fr h₀ _ _ _ => kF
      rename News g' _ _ _ => gN
      rename Fr g' _ _ _ => gF
      rw [List.append_nil] at hrest
      subst hrest
      subst hp
      exact hret _ _ _ _ _ _ _ _ _ _ _ _ kF (leave_newsL HN.out hP HG.out gF gN (SubL.mem (by k_subL)) kN (SubL.mem (by k_subL))) (fun q hq => leave_old HN.out HG.out gN (SubL.mem (by k_subL)) (SubL.mem (by k_subL) q hq))
    | cons t rest =>
      have hat : (l ++ [0])[dn.length]? = some t := by rw [hrest]; simp
      have hg := hl t (by rw [hrest]; simp)
      by_cases hbig : 256 ≤ t
      · k_steps
        rename News g' _ _ _ => kN
        rename Fr g' _ _ _ => kF
        refine' jd_next (p' := addP (t - 256) p) kF kN ?h0 hp hrest ?h1 ?h2 ?h3 ?h4 ?h5 ?h6 ?h7 ?h8 ?h9 ?h10 ?h11 ?h12 ?h13
        (case h0 => exact (stepP_big hbig).symm); (case h1 => with_unfolding_all rfl); (case h2 => with_unfolding_all rfl); (case h3 => with_unfolding_all rfl); (case h4 => with_unfolding_all rfl)
        (case h5 => k_extra "own tm"); (case h6 => k_extra "own tm"); (case h7 => k_extra "own tm"); (case h8 => k_extra "own tm"); (case h9 => k_extra "own tm"); (case h10 => k_extra "own tm"); (case h11 => k_extra "own tm"); (case h12 => assumption); (case h13 => exact SubL.mem (by k_subL))
      · have hsm : t = 17 ∨ t = 47 ∨ t = 20 ∨ t = 33 ∨ t = 21 ∨ t = 34 := by
          rcases hg with h | h | h | h | h | h | h
          · exact .inl h
          · exact .inr (.inl h)
          · exact .inr (.inr (.inl h))
          · exact .inr (.inr (.inr (.inl h)))
          · exact .inr (.inr (.inr (.inr (.inl h))))
          · exact .inr (.inr (.inr (.inr (.inr h))))
          · exact absurd h hbig
        have ht0 : t ≠ 0 := by omega
        have ht2 : t < 256 := by omega
        k_steps
        refine Hid.mk ?_
        rename Fr g' _ _ _ => F5
        k_dflt (refine For_invVF F5 (by rfl) (by rfl) ?_)
        k_steps
        refine Hid.mk ?_
        rename Fr g' _ _ _ => F6
        rename News g' _ _ _ => N6
        refine' deed_turnM (p := p) (p' := stepP t p) ?oka1 ?hka1 X' T' ?hEa1 rfl ?kxa1 ?k1a1 ?k2a1 ?k3a1 ?k4a1 ?vca1 ?auga1 ?ffa1 ?nna1 ?hena1 ?e1a1 ?e2a1 ?e3a1 ?e4a1 ?hxa1 ?fina1
        case ffa1 => exact F6
        case nna1 => exact N6
        case hxa1 =>
          intro s' h
          exact wpAny_execs_nil h
        case hka1 => rfl
        case hEa1 => passes_own
        case kxa1 => rfl
        case k1a1 => rfl
        case k2a1 => rfl
        case k3a1 => rfl
        case k4a1 => rfl
        case hena1 => exact fun q hq => List.mem_append.mpr (.inl hq)
        case e1a1 => with_unfolding_all rfl
        case e2a1 => with_unfolding_all rfl
        case e3a1 => with_unfolding_all rfl
        case e4a1 => with_unfolding_all rfl
        case oka1 => exact parM_ok (tb := [(163, spMirror)]) (dd := 4) (fl := false) (tb_ok (List.forall_mem_cons.mpr ⟨mirrorS _ _ _ _, tb_nil⟩)) B' X' T' (by rfl) (by ktr_room) (by ktr_units)
        case vca1 =>
          refine six_deed (R := fun tx q => gFor (gS _ 40) "deed" _ (chs tx) [] (sigD p ar _ _) (kDeed q ar _ _)) hsm ?_ ?_ ?_ ?_ ?_ ?_
          · exact And.intro (fun _ => ⟨rfl, rfl, rfl, rfl, rfl, rfl⟩) (fun h => absurd h (by decide +kernel))
          · exact And.intro (fun _ => And.intro (fun _ => ⟨rfl, rfl, rfl, rfl, rfl, rfl⟩) (fun h => absurd h (by decide +kernel))) (fun h => absurd h (by decide +kernel))
          · exact And.intro (fun h => absurd h (by decide +kernel)) (fun _ => And.intro (fun _ => ⟨_, _, _, _, rfl, good_fm _, good_fm _, ⟨rfl, rfl, rfl, rfl, rfl, rfl⟩⟩) (fun h => absurd h (by decide +kernel)))
          · exact And.intro (fun h => absurd h (by decide +kernel)) (fun _ => And.intro (fun _ => ⟨_, _, _, _, rfl, good_fm _, good_fm _, And.intro (fun h => absurd h (by decide +kernel)) (fun _ => And.intro (fun _ => ⟨_, _, _, _, rfl, good_fm _, good_fm _, ⟨rfl, rfl, rfl, rfl, rfl, rfl⟩⟩) (fun h => absurd h (by decide +kernel)))⟩) (fun h => absurd h (by decide +kernel)))
          · exact And.intro (fun h => absurd h (by decide +kernel)) (fun _ => And.intro (fun h => absurd h (by decide +kernel)) (fun _ => ⟨_, _, _, _, rfl, good_fm _, good_fm _, ⟨rfl, rfl, rfl, rfl, rfl, rfl⟩⟩))
          · exact And.intro (fun h => absurd h (by decide +kernel)) (fun _ => And.intro (fun h => absurd h (by decide +kernel)) (fun _ => ⟨_, _, _, _, rfl, good_fm _, good_fm _, And.intro (fun h => absurd h (by decide +kernel)) (fun _ => And.intro (fun h => absurd h (by decide +kernel)) (fun _ => ⟨_, _, _, _, rfl, good_fm _, good_fm _, ⟨rfl, rfl, rfl, rfl, rfl, rfl⟩⟩))⟩))
        case auga1 => exact ⟨rfl, rfl, rfl, rfl, rfl, rfl⟩
        case fina1 =>
          intro h7 tk7 m7 nw7 Eb x1 x2 x3 x4 n7 y1 y2 y3 y4 ti7 F7 N7 hW7 hE7 d1 d2 d3 d4
          exact (jd_next (p' := stepP t p) F7 N7 rfl hp hrest d2 d1 d3 d4 (hE7 _ (.head _)) (hE7 _ (.tail _ (.head _))) (hE7 _ (.tail _ (.tail _ (.head _)))) (hE7 _ (.tail _ (.tail _ (.tail _ (.head _))))) (hE7 _ (.tail _ (.tail _ (.tail _ (.tail _ (.head _)))))) (hW7 _ (by k_extra "own tm")) (hW7 _ (by k_extra "own tm")) hoc (fun q hq => hW7 q (SubL.mem (by k_subL) q hq))).out
end Mine
end
section
open PySem PySem.W PyProof.Rows
set_option Elab.async false
set_option maxRecDepth 100000
set_option maxHeartbeats 1000000
namespace Mine
/-- alike but for whole turns of the wheel -/
noncomputable def Em (x y : Int) : Prop := ∃ k : Int, x = y + 768 * k
theorem Em.refl (x : Int) : Em x x := ⟨0, by omega⟩
theorem Em.fm (x : Int) : Em (x.fmod 768) x := ⟨-(x.fdiv 768), by have := Int.fmod_add_mul_fdiv x 768; omega⟩
theorem Em.symm {x y : Int} (h : Em x y) : Em y x := by obtain ⟨k, e⟩ := h; exact ⟨-k, by omega⟩
theorem Em.trans {x y z : Int} (h : Em x y) (h' : Em y z) : Em x z := by obtain ⟨k, e⟩ := h; obtain ⟨k', e'⟩ := h'; exact ⟨k + k', by omega⟩
theorem Em.add {x y x' y' : Int} (h : Em x y) (h' : Em x' y') : Em (x + x') (y + y') := by obtain ⟨k, e⟩ := h; obtain ⟨k', e'⟩ := h'; exact ⟨k + k', by omega⟩
theorem Em.twice {x y x' y' : Int} (h : Em x y) (h' : Em x' y') : Em (2 * x - x') (2 * y - y') := by obtain ⟨k, e⟩ := h; obtain ⟨k', e'⟩ := h'; exact ⟨2 * k - k', by omega⟩
theorem Em.fmod_eq {x y : Int} (h : Em x y) : x.fmod 768 = y.fmod 768 := by
  obtain ⟨k, rfl⟩ := h
  exact Int.add_mul_fmod_self_left ..
noncomputable def E4 (p q : P4) : Prop := Em p.1 q.1 ∧ Em p.2.1 q.2.1 ∧ Em p.2.2.1 q.2.2.1 ∧ Em p.2.2.2 q.2.2.2
theorem E4.refl (p : P4) : E4 p p := ⟨.refl _, .refl _, .refl _, .refl _⟩
theorem E4.trans {p q r : P4} (h : E4 p q) (h' : E4 q r) : E4 p r := ⟨h.1.trans h'.1, h.2.1.trans h'.2.1, h.2.2.1.trans h'.2.2.1, h.2.2.2.trans h'.2.2.2⟩
/-- the deeds with no remainders -/
noncomputable def rotQ (p : P4) : P4 := (p.2.2.2, p.1, p.2.1, p.2.2.1)
noncomputable def ltQ (p : P4) : P4 := (p.1, 2 * p.2.1 - p.2.2.1, p.2.1, p.2.2.2)
noncomputable def gtQ (p : P4) : P4 := (p.1, p.2.2.1, 2 * p.2.2.1 - p.2.1, p.2.2.2)
noncomputable def addQ (g : Int) (p : P4) : P4 := (p.1 + g, p.2.1 + g, p.2.2.1 + g, p.2.2.2 + g)
theorem e_rot {p q : P4} (h : E4 p q) : E4 (rotP p) (rotQ q) := ⟨h.2.2.2, h.1, h.2.1, h.2.2.1⟩
theorem e_lt {p q : P4} (h : E4 p q) : E4 (ltP p) (ltQ q) := ⟨h.1, ((Em.fm _).trans h.2.1).twice ((Em.fm _).trans h.2.2.1), h.2.1, h.2.2.2⟩
theorem e_gt {p q : P4} (h : E4 p q) : E4 (gtP p) (gtQ q) := ⟨h.1, h.2.2.1, ((Em.fm _).trans h.2.2.1).twice ((Em.fm _).trans h.2.1), h.2.2.2⟩
theorem e_add {p q : P4} (g : Int) (h : E4 p q) : E4 (addP g p) (addQ g q) := ⟨((Em.fm _).trans h.1).add (.refl g), ((Em.fm _).trans h.2.1).add (.refl g), ((Em.fm _).trans h.2.2.1).add (.refl g), ((Em.fm _).trans h.2.2.2).add (.refl g)⟩
/-- one sign's deed -/
noncomputable def signQ (c : Nat) (p : P4) : P4 := if c = 47 then rotQ p else if c = 60 then ltQ p else if c = 62 then gtQ p else addQ c p
noncomputable def wordQ (cs : List Nat) (p : P4) : P4 := cs.foldl (fun p c => signQ c p) p
theorem wordQ_append (a b : List Nat) (p : P4) : wordQ (a ++ b) p = wordQ b (wordQ a p) := by unfold wordQ; rw [List.foldl_append]
/-- a run of a sign of one way: T to the power a -/
noncomputable def twQ (a : Int) (p : P4) : P4 := (p.1, p.2.1 + a * (p.2.1 - p.2.2.1), p.2.2.1 + a * (p.2.1 - p.2.2.1), p.2.2.2)
theorem twQ_zero (p : P4) : twQ 0 p = p := by unfold twQ; simp
theorem ltQ_tw (p : P4) : ltQ p = twQ 1 p := by
  unfold ltQ twQ
  refine Prod.ext rfl (Prod.ext ?_ (Prod.ext ?_ rfl)) <;> dsimp only <;> grind
theorem gtQ_tw (p : P4) : gtQ p = twQ (-1) p := by
  unfold gtQ twQ
  refine Prod.ext rfl (Prod.ext ?_ (Prod.ext ?_ rfl)) <;> dsimp only <;> grind
theorem twQ_twQ (a b : Int) (p : P4) : twQ a (twQ b p) = twQ (a + b) p := by
  unfold twQ
  refine Prod.ext rfl (Prod.ext ?_ (Prod.ext ?_ rfl)) <;> dsimp only <;> grind
theorem twQ_addQ (a g : Int) (p : P4) : twQ a (addQ g p) = addQ g (twQ a p) := by
  unfold twQ addQ
  refine Prod.ext rfl (Prod.ext ?_ (Prod.ext ?_ rfl)) <;> dsimp only <;> grind
theorem rotQ_addQ (g : Int) (p : P4) : rotQ (addQ g p) = addQ g (rotQ p) := rfl
theorem addQ_addQ (g h : Int) (p : P4) : addQ g (addQ h p) = addQ (h + g) p := by
  unfold addQ
  refine Prod.ext ?_ (Prod.ext ?_ (Prod.ext ?_ ?_)) <;> dsimp only <;> grind
theorem addQ_zero (p : P4) : addQ 0 p = p := by unfold addQ; simp
/-- four runs between turns: what the ends come to -/
theorem four_runs (u s a b c d : Int) :
    twQ d (rotQ (twQ c (rotQ (twQ b (rotQ (twQ a (u, u, u - s, u - s))))))) =
      (u + s * (a - a * b), u + s * (a - a * b) + s * (a * b + a * d + c * d - 1 - a * b * c * d), u + s * (a - a * b) + s * (a * b + a * d + c * d - 1 - a * b * c * d) - s * (a + c - a * b * c), u + s * (a - a * b) - s * (a + c - a * b * c)) := by
  unfold twQ rotQ
  refine Prod.ext ?_ (Prod.ext ?_ (Prod.ext ?_ ?_)) <;> dsimp only <;> grind
/-- signs of letters: only colours move -/
theorem wordQ_addQ (g : Int) : ∀ (cs : List Nat) (p : P4), wordQ cs (addQ g p) = addQ g (wordQ cs p)
  | [], _ => rfl
  | c :: cs, p => by
    show wordQ cs (signQ c (addQ g p)) = addQ g (wordQ cs (signQ c p))
    have h : signQ c (addQ g p) = addQ g (signQ c p) := by
      unfold signQ
      split
      · rfl
      · split
        · rw [ltQ_tw, twQ_addQ, ← ltQ_tw]
        · split
          · rw [gtQ_tw, twQ_addQ, ← gtQ_tw]
          · rw [addQ_addQ, addQ_addQ, Int.add_comm]
    rw [h, wordQ_addQ g cs]
noncomputable def isLetter (c : Nat) : Prop := c ≠ 47 ∧ c ≠ 60 ∧ c ≠ 62
noncomputable def sumI : List Nat → Int
  | [] => 0
  | c :: r => c + sumI r
theorem wordQ_letters : ∀ (cs : List Nat) (_ : ∀ c ∈ cs, isLetter c) (p : P4), wordQ cs p = addQ (sumI cs) p
  | [], _, p => (addQ_zero p).symm
  | c :: cs, h, p => by
    obtain ⟨h1, h2, h3⟩ := h c (.head _)
    show wordQ cs (signQ c p) = _
    rw [show signQ c p = addQ c p by unfold signQ; rw [if_neg h1, if_neg h2, if_neg h3], wordQ_letters cs (fun x hx => h x (.tail _ hx)), addQ_addQ]
    rfl
theorem wordQ_lt : ∀ (n : Nat) (p : P4), wordQ (List.replicate n 60) p = twQ n p
  | 0, p => (twQ_zero p).symm
  | n + 1, p => by
    show wordQ (List.replicate n 60) (signQ 60 p) = _
    rw [show signQ 60 p = ltQ p from rfl, ltQ_tw, wordQ_lt n, twQ_twQ]
    congr 1
theorem wordQ_gt : ∀ (n : Nat) (p : P4), wordQ (List.replicate n 62) p = twQ (-(n : Int)) p
  | 0, p => (twQ_zero p).symm
  | n + 1, p => by
    show wordQ (List.replicate n 62) (signQ 62 p) = _
    rw [show signQ 62 p = gtQ p from rfl, gtQ_tw, wordQ_gt n, twQ_twQ]
    congr 1
    omega
/-- the signs of a run -/
noncomputable def runSg (a : Int) : List Nat := List.replicate a.toNat 60 ++ List.replicate (-a).toNat 62
theorem wordQ_run (a : Int) (p : P4) : wordQ (runSg a) p = twQ a p := by
  unfold runSg
  rw [wordQ_append, wordQ_lt, wordQ_gt, twQ_twQ]
  congr 1
  omega
/-- a run with letters behind its first sign -/
theorem wordQ_dressed (a : Int) (cs : List Nat) (h : ∀ c ∈ cs, isLetter c) (p : P4) : wordQ ((runSg a).take 1 ++ cs ++ (runSg a).drop 1) p = addQ (sumI cs) (twQ a p) := by
  rw [wordQ_append, wordQ_append, wordQ_letters cs h, wordQ_addQ, ← wordQ_append, List.take_append_drop, wordQ_run]
theorem wordQ_stroke (p : P4) : wordQ [47] p = rotQ p := rfl
/-- one number's text: dressed run, stroke, run -/
noncomputable def numS (a b : Int) (cs : List Nat) : List Nat := (runSg a).take 1 ++ cs ++ (runSg a).drop 1 ++ [47] ++ runSg b
theorem wordQ_num (a b : Int) (cs : List Nat) (h : ∀ c ∈ cs, isLetter c) (p : P4) : wordQ (numS a b cs) p = addQ (sumI cs) (twQ b (rotQ (twQ a p))) := by
  unfold numS
  rw [wordQ_append, wordQ_append, wordQ_dressed a cs h, wordQ_stroke, wordQ_run, rotQ_addQ, twQ_addQ]
/-- one word: what its ends come to -/
theorem wordQ_word (u s a b c d : Int) (ks ls : List Nat) (hk : ∀ c ∈ ks, isLetter c) (hl : ∀ c ∈ ls, isLetter c) :
    wordQ (numS a b ks ++ [47] ++ numS c d ls) (u, u, u - s, u - s) = addQ (sumI ks + sumI ls)
      (u + s * (a - a * b), u + s * (a - a * b) + s * (a * b + a * d + c * d - 1 - a * b * c * d), u + s * (a - a * b) + s * (a * b + a * d + c * d - 1 - a * b * c * d) - s * (a + c - a * b * c), u + s * (a - a * b) - s * (a + c - a * b * c)) := by
  rw [wordQ_append, wordQ_append, wordQ_num a b ks hk, wordQ_stroke, wordQ_num c d ls hl, rotQ_addQ, twQ_addQ, rotQ_addQ, twQ_addQ, addQ_addQ, four_runs]
end Mine
end
section
open PySem PySem.W PyProof.Rows
set_option Elab.async false
set_option maxRecDepth 100000
set_option maxHeartbeats 1000000
namespace Mine
theorem slice_hi_beyond {x : PySem.Str} {i j : Int} (h : (x.length : Int) ≤ j) : Txt.slice x (some i) (some j) = Txt.slice x (some i) (some (x.length : Int)) := by
  have e : Builtin.Str.strSliceIndices (some i) (some j) 1 x.length = Builtin.Str.strSliceIndices (some i) (some (x.length : Int)) 1 x.length := by
    unfold Builtin.Str.strSliceIndices
    simp only
    congr 1
    have h0 : ¬ j < 0 := by omega
    have h1 : ¬ ((x.length : Int) < 0) := by omega
    rw [if_neg h0, if_neg h1]
    simp only [show ((1 : Int) > 0) from by decide, if_true]
    omega
  unfold Txt.slice
  rw [e]
theorem cut_list {z : PySem.Str} {i k : Nat} (hi : i ≤ z.length) : cutI z i (i + k) = ⟨((z.cps.toList.drop i).take k).toArray⟩ := by
  by_cases h : i + k ≤ z.length
  · have := eq_of_beq (slice_closesL (x := z) (i := (i : Int)) (j := (i : Int) + k) (by omega) (by omega) (by omega))
    show Txt.slice z _ _ = _
    rw [this, show (i : Int).toNat = i by omega, show ((i : Int) + k - i).toNat = k by omega]
  · show Txt.slice z _ _ = _
    rw [slice_hi_beyond (by omega)]
    have := eq_of_beq (slice_closesL (x := z) (i := (i : Int)) (j := z.length) (by omega) (by omega) (by omega))
    rw [this, show (i : Int).toNat = i by omega]
    congr 2
    have hl : (z.cps.toList.drop i).length = z.length - i := by rw [List.length_drop]; rfl
    rw [List.take_of_length_le (by rw [hl]; omega), List.take_of_length_le (by rw [hl]; omega)]
/-- the signs that a word may have -/
noncomputable def okC (c : Nat) : Bool := c == 47 || c == 60 || c == 62 || (97 ≤ c && c ≤ 122) || c == 963
noncomputable def six : List (List Nat × Int) := [([47], 17), ([47, 47], 47), ([60], 20), ([60, 60], 33), ([62], 21), ([62, 62], 34)]
theorem tok_ok_list : (tokL.filter fun e => e.1.cps.toList.all okC).map (fun e => (e.1.cps.toList, e.2.2.1)) = six := by decide +kernel
theorem tok_ok {cs : List Nat} (h : cs.all okC = true) (hs : (tokF ⟨cs.toArray⟩).isSome = true) : (cs, ((tokF ⟨cs.toArray⟩).getD (0, 0)).1) ∈ six := by
  rw [← tok_ok_list]
  unfold tokF at hs ⊢
  cases e : tokL.find? fun e => e.1 == (⟨cs.toArray⟩ : PySem.Str) with
  | none => rw [e] at hs; cases hs
  | some p =>
    rw [List.mem_map]
    have hp : p.1 = ⟨cs.toArray⟩ := eq_of_beq (List.find?_some e : _)
    refine ⟨p, List.mem_filter.mpr ⟨List.mem_of_find?_eq_some e, ?_⟩, ?_⟩
    · rw [hp]; simpa using h
    · rw [hp]; rfl
theorem tok_47 : (tokF ⟨[47].toArray⟩).isSome = true := by decide +kernel
theorem tok_60 : (tokF ⟨[60].toArray⟩).isSome = true := by decide +kernel
theorem tok_62 : (tokF ⟨[62].toArray⟩).isSome = true := by decide +kernel
/-- a token of our signs does what its signs do -/
theorem six_step {cs : List Nat} {t : Int} (h : (cs, t) ∈ six) : cs.length ≤ 2 ∧ 1 ≤ cs.length ∧ goodT t ∧ ∀ p q, E4 p q → E4 (stepP t p) (wordQ cs q) := by
  unfold six at h
  simp only [List.mem_cons, List.not_mem_nil, or_false, Prod.mk.injEq] at h
  unfold goodT
  rcases h with ⟨rfl, rfl⟩ | ⟨rfl, rfl⟩ | ⟨rfl, rfl⟩ | ⟨rfl, rfl⟩ | ⟨rfl, rfl⟩ | ⟨rfl, rfl⟩
  · exact ⟨by decide, by decide, by omega, fun p q h => e_rot h⟩
  · exact ⟨by decide, by decide, by omega, fun p q h => e_rot (e_rot h)⟩
  · exact ⟨by decide, by decide, by omega, fun p q h => e_lt h⟩
  · exact ⟨by decide, by decide, by omega, fun p q h => e_lt (e_lt h)⟩
  · exact ⟨by decide, by decide, by omega, fun p q h => e_gt h⟩
  · exact ⟨by decide, by decide, by omega, fun p q h => e_gt (e_gt h)⟩
theorem other_step {c : Nat} (h : ¬ (tokF ⟨[c].toArray⟩).isSome = true) : goodT (256 + (c : Int)) ∧ ∀ p q, E4 p q → E4 (stepP (256 + (c : Int)) p) (wordQ [c] q) := by
  refine ⟨by unfold goodT; omega, fun p q hpq => ?_⟩
  rw [stepP_big (by omega), show (256 + (c : Int) - 256) = (c : Int) by omega]
  have h1 : c ≠ 47 := fun e => h (e ▸ tok_47)
  have h2 : c ≠ 60 := fun e => h (e ▸ tok_60)
  have h3 : c ≠ 62 := fun e => h (e ▸ tok_62)
  show E4 _ (signQ c q)
  unfold signQ
  rw [if_neg h1, if_neg h2, if_neg h3]
  exact e_add _ hpq
theorem word_syms {z : PySem.Str} (hz : z.cps.toList.all okC = true) : ∀ (n i : Nat), z.length - i ≤ n → ∃ l, Syms z i l ∧ l.length ≤ z.length - i ∧ (∀ t ∈ l, goodT t) ∧ ∀ p q, E4 p q → E4 (l.foldl (fun p t => stepP t p) p) (wordQ (z.cps.toList.drop i) q) := by
  intro n
  induction n with
  | zero =>
    intro i hn
    have hl : z.cps.toList.length = z.length := rfl
    refine ⟨[], .done (by omega), by simp, (fun _ h => absurd h List.not_mem_nil), fun p q h => ?_⟩
    rw [List.drop_of_length_le (by omega)]
    exact h
  | succ n ih =>
    intro i hn
    have hl : z.cps.toList.length = z.length := rfl
    by_cases hi : i < z.length
    · have c1 := cut_list (z := z) (i := i) (k := 1) (by omega)
      have c2 := cut_list (z := z) (i := i) (k := 2) (by omega)
      have c3 := cut_list (z := z) (i := i) (k := 3) (by omega)
      -- one step of size k, cs the signs taken
      have go : ∀ (k m : Nat) (cs : List Nat) (t : Int), sizeI z i = k → codeI z i = t → 1 ≤ k → i + m ≤ z.length → 1 ≤ m → (m < k → i + m = z.length) → m ≤ k → (z.cps.toList.drop i).take m = cs → goodT t → (∀ p q, E4 p q → E4 (stepP t p) (wordQ cs q)) →
          ∃ l, Syms z i l ∧ l.length ≤ z.length - i ∧ (∀ t ∈ l, goodT t) ∧ ∀ p q, E4 p q → E4 (l.foldl (fun p t => stepP t p) p) (wordQ (z.cps.toList.drop i) q) := by
        intro k m cs t hk ht h1 hm hm1 hmk hmle hcs hg hs
        obtain ⟨l, hS, hll, hgl, hw⟩ := ih (i + k) (by omega)
        refine ⟨t :: l, ht ▸ Syms.step (by omega) (hk ▸ (by exact_mod_cast hS)), by simp only [List.length_cons]; omega, fun x hx => ?_, fun p q hpq => ?_⟩
        · rcases List.mem_cons.mp hx with rfl | hx
          · exact hg
          · exact hgl x hx
        · have hd : z.cps.toList.drop i = cs ++ z.cps.toList.drop (i + k) := by
            rw [← hcs]
            by_cases hmk' : m < k
            · have := hmk hmk'
              rw [List.drop_of_length_le (l := z.cps.toList) (i := i + k) (by omega), List.append_nil, List.take_of_length_le (by rw [List.length_drop]; omega)]
            · have : m = k := by omega
              subst this
              rw [← List.drop_drop, List.take_append_drop]
          rw [hd, wordQ_append]
          exact hw _ _ (hs p q hpq)
      have hall : ∀ k, ((z.cps.toList.drop i).take k).all okC = true := fun k => by
        rw [List.all_eq_true] at hz ⊢
        exact fun x hx => hz x (List.mem_of_mem_drop (List.mem_of_mem_take hx))
      have hdl : (z.cps.toList.drop i).length = z.length - i := by rw [List.length_drop]; omega
      by_cases h3 : (tokF (cutI z i (i + 3))).isSome = true
      · have hs : sizeI z i = (3 : Nat) := by unfold sizeI; rw [if_pos h3]; rfl
        have hc : codeI z i = ((tokF (cutI z i (i + 3))).getD (0, 0)).1 := by unfold codeI; rw [show sizeI z i = 3 from hs, if_pos h3]
        have e3 : cutI z (i : Int) ((i : Int) + 3) = ⟨((z.cps.toList.drop i).take 3).toArray⟩ := c3
        rw [e3] at h3 hc
        have hx := six_step (tok_ok (hall 3) h3)
        have hlen : ((z.cps.toList.drop i).take 3).length = min 3 (z.length - i) := by rw [List.length_take, hdl]
        rw [hlen] at hx
        refine go 3 (z.length - i) _ _ hs hc (by omega) (by omega) (by omega) (by omega) (by omega) rfl hx.2.2.1 ?_
        have q1 : (z.cps.toList.drop i).take (z.length - i) = z.cps.toList.drop i := List.take_of_length_le (by omega)
        have q2 : (z.cps.toList.drop i).take 3 = z.cps.toList.drop i := List.take_of_length_le (by omega)
        rw [q1]
        have q3 := hx.2.2.2
        rw [q2] at q3 ⊢
        exact q3
      · by_cases h2 : (tokF (cutI z i (i + 2))).isSome = true
        · have hs : sizeI z i = (2 : Nat) := by unfold sizeI; rw [if_neg h3, if_pos h2]; rfl
          have hc : codeI z i = ((tokF (cutI z i (i + 2))).getD (0, 0)).1 := by unfold codeI; rw [show sizeI z i = 2 from hs, if_pos h2]
          have e2 : cutI z (i : Int) ((i : Int) + 2) = ⟨((z.cps.toList.drop i).take 2).toArray⟩ := c2
          have e3 : cutI z (i : Int) ((i : Int) + 3) = ⟨((z.cps.toList.drop i).take 3).toArray⟩ := c3
          rw [e2] at h2 hc
          rw [e3] at h3
          have hx := six_step (tok_ok (hall 2) h2)
          have h2' : 2 ≤ z.length - i := by
            refine Nat.le_of_not_lt fun hlt => h3 ?_
            rw [List.take_of_length_le (by omega)]
            rw [List.take_of_length_le (i := 2) (by omega)] at h2
            exact h2
          exact go 2 2 _ _ hs hc (by omega) (by omega) (by omega) (by omega) (by omega) rfl hx.2.2.1 hx.2.2.2
        · have hs : sizeI z i = (1 : Nat) := by unfold sizeI; rw [if_neg h3, if_neg h2]; rfl
          have e1 : cutI z (i : Int) ((i : Int) + 1) = ⟨((z.cps.toList.drop i).take 1).toArray⟩ := c1
          obtain ⟨c, cs, hcc⟩ : ∃ c cs, z.cps.toList.drop i = c :: cs := by
            cases e : z.cps.toList.drop i with
            | nil => rw [e] at hdl; simp at hdl; omega
            | cons c cs => exact ⟨c, cs, rfl⟩
          have ht1 : (z.cps.toList.drop i).take 1 = [c] := by rw [hcc]; rfl
          by_cases h1 : (tokF (cutI z i (i + 1))).isSome = true
          · have hc : codeI z i = ((tokF (cutI z i (i + 1))).getD (0, 0)).1 := by unfold codeI; rw [show sizeI z i = 1 from hs, if_pos h1]
            rw [e1] at h1 hc
            have hx := six_step (tok_ok (hall 1) h1)
            exact go 1 1 _ _ hs hc (by omega) (by omega) (by omega) (by omega) (by omega) rfl hx.2.2.1 hx.2.2.2
          · have hc : codeI z i = 256 + (c : Int) := by
              unfold codeI; rw [show sizeI z i = 1 from hs, if_neg h1, e1, ht1]; rfl
            rw [e1, ht1] at h1
            have hx := other_step h1
            exact go 1 1 [c] _ hs hc (by omega) (by omega) (by omega) (by omega) (by omega) ht1 hx.1 hx.2
    · refine ⟨[], .done (by omega), by simp, (fun _ h => absurd h List.not_mem_nil), fun p q h => ?_⟩
      rw [List.drop_of_length_le (by omega)]
      exact h
end Mine
end
section
open PySem PySem.W PyProof.Rows
set_option Elab.async false
set_option maxRecDepth 100000
set_option maxHeartbeats 1000000
namespace Mine
theorem shineK : ∀ n < 768, (decide (mnS (Int.ofNat n) 0 < 0) != decide ((128 : Int) < 0)) = false ∧ (mnS (Int.ofNat n) 0).natAbs = (tabK n).1 ∧ (decide (mnS (Int.ofNat n) 256 < 0) != decide ((128 : Int) < 0)) = false ∧ (mnS (Int.ofNat n) 256).natAbs = (tabK n).2.1 ∧
    (decide (mnS (Int.ofNat n) 512 < 0) != decide ((128 : Int) < 0)) = false ∧ (mnS (Int.ofNat n) 512).natAbs = (tabK n).2.2 := by decide +kernel
theorem shineAll : ∀ n < 768, colF (Int.ofNat n) = shineF (Int.ofNat n) := fun n h => by
  obtain ⟨a1, a2, b1, b2, c1, c2⟩ := shineK n h
  rw [col_tab h]
  unfold shineF shS tabD
  rw [a1, a2, b1, b2, c1, c2]; rfl
theorem fmod_sub_fmod (k c : Int) : (k - c).fmod 768 = (k.fmod 768 - c).fmod 768 := by
  have h : Em (k - c) (k.fmod 768 - c) := by
    obtain ⟨q, e⟩ := (Em.fm k).symm
    exact ⟨q, by omega⟩
  exact h.fmod_eq
theorem fmod_sub_fmod' (k c : Int) : (c - k).fmod 768 = (c - k.fmod 768).fmod 768 := by
  have h : Em (c - k) (c - k.fmod 768) := by
    obtain ⟨q, e⟩ := (Em.fm k).symm
    exact ⟨-q, by omega⟩
  exact h.fmod_eq
theorem shine_fm (k : Int) : shineF k = shineF (k.fmod 768) := by
  have h : ∀ c, farS k c = farS (k.fmod 768) c := fun c => by
    show (if (c - k).fmod 768 < (k - c).fmod 768 then (c - k).fmod 768 else (k - c).fmod 768) = (if (c - k.fmod 768).fmod 768 < (k.fmod 768 - c).fmod 768 then (c - k.fmod 768).fmod 768 else (k.fmod 768 - c).fmod 768)
    rw [fmod_sub_fmod k c, fmod_sub_fmod' k c]
  have h1 : ∀ c, mnS k c = mnS (k.fmod 768) c := fun c => by
    show (if 128 < (if 0 > 256 - farS k c then 0 else 256 - farS k c) then 128 else (if 0 > 256 - farS k c then 0 else 256 - farS k c)) = _
    rw [h c]
  have h2 : ∀ c, shS k c = shS (k.fmod 768) c := fun c => by
    show Float64.ofFrac (decide (mnS k c < 0) != decide ((128 : Int) < 0)) (mnS k c).natAbs (Int.natAbs 128) = _
    rw [h1 c]
  unfold shineF
  rw [h2, h2, h2]
theorem shine_col (k : Int) : shineF k = colF (k.fmod 768) := by
  rw [shine_fm]
  have h0 : 0 ≤ k.fmod 768 := Int.fmod_nonneg_of_pos k (by decide)
  have h1 : k.fmod 768 < 768 := Int.fmod_lt_of_pos k (by decide)
  obtain ⟨n, e⟩ := Int.eq_ofNat_of_zero_le h0
  rw [e]
  exact (shineAll n (by omega)).symm
end Mine
end
section
open PySem PySem.W PyProof.Rows
set_option Elab.async false
set_option maxRecDepth 100000
set_option maxHeartbeats 1000000
namespace Mine
open PySem.Builtin.Str PySem.StrLaws
/-- one place's turn of the search -/
noncomputable def stepO (s sub : PySem.Str) (hi limit : Nat) (st : Array Nat × Nat) (i : Nat) : Array Nat × Nat :=
  if ((st.fst.size < limit ∧ st.snd ≤ i) ∧ i + sub.length ≤ hi) ∧ subAt s sub i = true then (st.fst.push i, i + sub.length) else st
theorem forIn_step (s sub : PySem.Str) (hi limit : Nat) : ∀ (l : List Nat) (st : Array Nat × Nat), (forIn l st (occBody s sub hi limit)).run = l.foldl (stepO s sub hi limit) st
  | [], _ => rfl
  | a :: l, st => by
    rw [List.forIn_cons, List.foldl_cons, ← forIn_step s sub hi limit l]
    unfold occBody stepO
    split <;> rfl
theorem occ_fold (s sub : PySem.Str) (limit : Nat) : occurrences s sub 0 s.length limit = ((List.range' 0 (s.length + 1)).foldl (stepO s sub s.length limit) (#[], 0)).1.toList := by
  rw [occ_eq, forIn_step]; rfl
theorem fold_skip (s sub : PySem.Str) (hi limit : Nat) : ∀ (l : List Nat) (st : Array Nat × Nat), (∀ i ∈ l, ¬ (i + sub.length ≤ hi ∧ subAt s sub i = true)) → l.foldl (stepO s sub hi limit) st = st
  | [], _, _ => rfl
  | a :: l, st, h => by
    have e : stepO s sub hi limit st a = st := by
      unfold stepO
      rw [if_neg fun q => h a (.head _) ⟨q.1.2, q.2⟩]
    rw [List.foldl_cons, e]
    exact fold_skip s sub hi limit l st fun i hi => h i (.tail _ hi)
theorem range_two (a b c : Nat) : List.range' 0 (a + 1 + b + 1 + c) = List.range' 0 a ++ [a] ++ List.range' (a + 1) b ++ [a + 1 + b] ++ List.range' (a + 1 + b + 1) c := by
  have h : ∀ x n m, List.range' x (n + m) = List.range' x n ++ List.range' (x + n) m := fun x n m => by rw [List.range'_append_1]
  have h1 : ∀ x, List.range' x 1 = [x] := fun _ => rfl
  rw [h 0 (a + 1 + b + 1) c, h 0 (a + 1 + b) 1, h 0 (a + 1) b, h 0 a 1, h1, h1]
  simp
theorem sep_len : (PySem.Str.ofString "'").length = 1 := by decide +kernel
theorem sep_eq : PySem.Str.ofString "'" = (⟨#[39]⟩ : PySem.Str) := by decide +kernel
/-- three parts with two apostrophes between them -/
theorem split_three (A B C : List Nat) (ha : 39 ∉ A) (hb : 39 ∉ B) (hc : 39 ∉ C) : Txt.splitMax ⟨(A ++ [39] ++ B ++ [39] ++ C).toArray⟩ (PySem.Str.ofString "'") 2 = [⟨A.toArray⟩, ⟨B.toArray⟩, ⟨C.toArray⟩] := by
  rw [sep_eq]
  generalize hz : (⟨(A ++ [39] ++ B ++ [39] ++ C).toArray⟩ : PySem.Str) = z
  have hl : z.cps.toList = A ++ [39] ++ B ++ [39] ++ C := by rw [← hz]
  have hn : z.length = A.length + 1 + B.length + 1 + C.length := by
    have : z.length = z.cps.toList.length := rfl
    rw [this, hl]; simp; omega
  have hat : ∀ i, (i + (⟨#[39]⟩ : PySem.Str).length ≤ z.length ∧ subAt z ⟨#[39]⟩ i = true) ↔ z.cps.toList[i]? = some 39 := subAt_one z 39
  have skipA : ∀ i ∈ List.range' 0 A.length, ¬ (i + (⟨#[39]⟩ : PySem.Str).length ≤ z.length ∧ subAt z ⟨#[39]⟩ i = true) := fun i hi q => by
    have hi' : i < A.length := by simp [List.mem_range'] at hi; omega
    have := (hat i).mp q
    rw [hl, List.append_assoc, List.append_assoc, List.append_assoc, List.getElem?_append_left hi'] at this
    exact ha (List.mem_of_getElem? this)
  have skipB : ∀ i ∈ List.range' (A.length + 1) B.length, ¬ (i + (⟨#[39]⟩ : PySem.Str).length ≤ z.length ∧ subAt z ⟨#[39]⟩ i = true) := fun i hi q => by
    have hi' : A.length + 1 ≤ i ∧ i < A.length + 1 + B.length := by simp [List.mem_range'] at hi; omega
    have := (hat i).mp q
    rw [hl, List.append_assoc, List.append_assoc, List.getElem?_append_right (by simp; omega), List.getElem?_append_left (by simp; omega)] at this
    exact hb (List.mem_of_getElem? this)
  have skipC : ∀ i ∈ List.range' (A.length + 1 + B.length + 1) (C.length + 1), ¬ (i + (⟨#[39]⟩ : PySem.Str).length ≤ z.length ∧ subAt z ⟨#[39]⟩ i = true) := fun i hi q => by
    have hi' : A.length + 1 + B.length + 1 ≤ i := by simp [List.mem_range'] at hi; omega
    have := (hat i).mp q
    rw [hl, List.getElem?_append_right (by simp; omega)] at this
    exact hc (List.mem_of_getElem? this)
  have hit1 : A.length + (⟨#[39]⟩ : PySem.Str).length ≤ z.length ∧ subAt z ⟨#[39]⟩ A.length = true := (hat _).mpr (by rw [hl]; simp)
  have hit2 : (A.length + 1 + B.length) + (⟨#[39]⟩ : PySem.Str).length ≤ z.length ∧ subAt z ⟨#[39]⟩ (A.length + 1 + B.length) = true := (hat _).mpr (by
    rw [hl, List.getElem?_append_left (by simp; omega), List.getElem?_append_right (by simp; omega)]
    have : A.length + 1 + B.length - (A ++ [39] ++ B).length = 0 := by simp; omega
    rw [this]; rfl)
  have occ : occurrences z ⟨#[39]⟩ 0 z.length 2 = [A.length, A.length + 1 + B.length] := by
    rw [occ_fold]
    have e : z.length + 1 = A.length + 1 + B.length + 1 + (C.length + 1) := by omega
    rw [e, range_two, List.foldl_append, List.foldl_append, List.foldl_append, List.foldl_append, fold_skip _ _ _ _ _ _ skipA]
    have fone : ∀ (st : Array Nat × Nat) i, List.foldl (stepO z ⟨#[39]⟩ z.length 2) st [i] = stepO z ⟨#[39]⟩ z.length 2 st i := fun _ _ => rfl
    have s1 : stepO z ⟨#[39]⟩ z.length 2 (#[], 0) A.length = (#[A.length], A.length + 1) := by
      unfold stepO
      rw [if_pos ⟨⟨⟨by decide, Nat.zero_le _⟩, hit1.1⟩, hit1.2⟩]; rfl
    rw [fone, fone, s1, fold_skip _ _ _ _ _ _ skipB]
    have s2 : stepO z ⟨#[39]⟩ z.length 2 (#[A.length], A.length + 1) (A.length + 1 + B.length) = (#[A.length, A.length + 1 + B.length], A.length + 1 + B.length + 1) := by
      unfold stepO
      rw [if_pos ⟨⟨⟨by show 1 < 2; decide, by show A.length + 1 ≤ _; omega⟩, hit2.1⟩, hit2.2⟩]; rfl
    rw [s2, fold_skip _ _ _ _ _ _ skipC]
  unfold Txt.splitMax
  have h1 : (decide (z.length < (⟨#[39]⟩ : PySem.Str).length) || decide (Builtin.Str.strKind z < Builtin.Str.strKind ⟨#[39]⟩)) = false := by
    have k1 : Builtin.Str.strKind ⟨#[39]⟩ = 1 := by decide +kernel
    have k2 : 1 ≤ Builtin.Str.strKind z := by unfold Builtin.Str.strKind; split; decide; split <;> decide
    have k3 : (⟨#[39]⟩ : PySem.Str).length = 1 := rfl
    rw [k1, k3, decide_eq_false (by omega), decide_eq_false (by omega)]; rfl
  have hlim : limitOf z 2 = 2 := rfl
  rw [h1, hlim, occ]
  rw [if_neg (by decide), if_neg (by simp)]
  unfold partsBetween
  have hsub : ∀ i j, strSub z i j = ⟨((z.cps.toList.drop i).take (j - i)).toArray⟩ := fun i j => by
    rw [← strSub_toList]
  have k3 : (⟨#[39]⟩ : PySem.Str).length = 1 := rfl
  simp only [List.map_cons, List.map_nil, List.cons_append, List.nil_append, List.zip_cons_cons, List.zip_nil_right, hsub, k3]
  rw [hl]
  have e1 : List.take (A.length - 0) (List.drop 0 (A ++ [39] ++ B ++ [39] ++ C)) = A := by simp
  have e2 : List.take (A.length + 1 + B.length - (A.length + 1)) (List.drop (A.length + 1) (A ++ [39] ++ B ++ [39] ++ C)) = B := by
    have : A ++ [39] ++ B ++ [39] ++ C = (A ++ [39]) ++ (B ++ ([39] ++ C)) := by simp
    rw [this, List.drop_left' (by simp)]
    rw [show A.length + 1 + B.length - (A.length + 1) = B.length by omega, List.take_left' rfl]
  have e3 : List.take (z.length - (A.length + 1 + B.length + 1)) (List.drop (A.length + 1 + B.length + 1) (A ++ [39] ++ B ++ [39] ++ C)) = C := by
    have : A ++ [39] ++ B ++ [39] ++ C = (A ++ [39] ++ B ++ [39]) ++ C := by simp
    rw [this, List.drop_left' (by simp; omega), List.take_of_length_le (by omega)]
  rw [e1, e2, e3]
end Mine
end
section
open PySem PySem.W PyProof.Rows
set_option Elab.async false
set_option maxRecDepth 100000
set_option maxHeartbeats 1000000
namespace Mine
/-- what lies outside of quotations (e: behind a backslash, q: within a quotation) -/
noncomputable def stripL : List Nat → Bool → Bool → List Nat
  | [], _, _ => []
  | c :: l, true, q => (if q then [] else [c]) ++ stripL l false q
  | c :: l, false, q => if c = 92 then (if q then [] else [c]) ++ stripL l true q else if c = 34 then stripL l false !q else (if q then [] else [c]) ++ stripL l false q
/-- the state behind a text -/
noncomputable def stQ : List Nat → Bool → Bool → Bool × Bool
  | [], e, q => (e, q)
  | _ :: l, true, q => stQ l false q
  | c :: l, false, q => if c = 92 then stQ l true q else if c = 34 then stQ l false !q else stQ l false q
theorem stripL_append : ∀ (a b : List Nat) (e q : Bool), stripL (a ++ b) e q = stripL a e q ++ stripL b (stQ a e q).1 (stQ a e q).2
  | [], _, _, _ => rfl
  | c :: a, b, true, q => by
    have h := stripL_append a b false q
    simp only [List.cons_append, stripL, stQ, h, List.append_assoc]
  | c :: a, b, false, q => by
    simp only [List.cons_append, stripL, stQ]
    split
    · rw [stripL_append a b true q, List.append_assoc]
    · split
      · rw [stripL_append a b false !q]
      · rw [stripL_append a b false q, List.append_assoc]
theorem stQ_append : ∀ (a b : List Nat) (e q : Bool), stQ (a ++ b) e q = stQ b (stQ a e q).1 (stQ a e q).2
  | [], _, _, _ => rfl
  | c :: a, b, true, q => stQ_append a b false q
  | c :: a, b, false, q => by
    simp only [List.cons_append, stQ]
    split
    · exact stQ_append a b true q
    · split
      · exact stQ_append a b false !q
      · exact stQ_append a b false q
/-- the signs of one unit, of those that are kept -/
noncomputable def keepL : List Nat → Bool → List Nat
  | [], false => []
  | [], true => [92]
  | _ :: l, true => keepL l false
  | c :: l, false => if c = 92 then keepL l true else c :: keepL l false
noncomputable def kpO : List Nat → Bool → List Nat
  | [], _ => []
  | _ :: l, true => kpO l false
  | c :: l, false => if c = 92 then kpO l true else c :: kpO l false
noncomputable def kpS : List Nat → Bool → Bool
  | [], e => e
  | _ :: l, true => kpS l false
  | c :: l, false => if c = 92 then kpS l true else kpS l false
theorem keepL_append : ∀ (a b : List Nat) (e : Bool), keepL (a ++ b) e = kpO a e ++ keepL b (kpS a e)
  | [], _, _ => by rfl
  | c :: a, b, true => keepL_append a b false
  | c :: a, b, false => by
    simp only [List.cons_append, keepL, kpO, kpS]
    split
    · exact keepL_append a b true
    · rw [keepL_append a b false, List.cons_append]
theorem kpO_append : ∀ (a b : List Nat) (e : Bool), kpO (a ++ b) e = kpO a e ++ kpO b (kpS a e)
  | [], _, _ => by rfl
  | c :: a, b, true => kpO_append a b false
  | c :: a, b, false => by
    simp only [List.cons_append, kpO, kpS]
    split
    · exact kpO_append a b true
    · rw [kpO_append a b false, List.cons_append]
theorem kpS_append : ∀ (a b : List Nat) (e : Bool), kpS (a ++ b) e = kpS b (kpS a e)
  | [], _, _ => rfl
  | c :: a, b, true => kpS_append a b false
  | c :: a, b, false => by
    simp only [List.cons_append, kpS]
    split
    · exact kpS_append a b true
    · exact kpS_append a b false
theorem keep_units : ∀ (l : List Nat) (i : Nat) (e : Bool), ((unitsF l i e).filter fun u => u.2.length == 1).flatMap (·.2) = keepL l e
  | [], _, false => rfl
  | [], _, true => rfl
  | c :: l, i, true => by
    show ((unitsF l (i + 1) false).filter _).flatMap _ = keepL l false
    exact keep_units l (i + 1) false
  | c :: l, i, false => by
    unfold unitsF keepL
    split
    · exact keep_units l (i + 1) true
    · show c :: ((unitsF l (i + 1) false).filter _).flatMap _ = _
      rw [keep_units l (i + 1) false]
/-- the slices laid one behind another -/
noncomputable def catS (l : List PySem.Str) : List Nat := l.flatMap fun y => y.cps.toList
theorem catS_snoc (l : List PySem.Str) (y : PySem.Str) : catS (l ++ [y]) = catS l ++ y.cps.toList := by unfold catS; simp
theorem slice_list {z : PySem.Str} {i j : Nat} (h1 : i ≤ j) (h2 : j ≤ z.length) : (Txt.slice z (some (i : Int)) (some (j : Int))).cps.toList = (z.cps.toList.drop i).take (j - i) := by
  rw [eq_of_beq (slice_closesL (x := z) (i := (i : Int)) (j := (j : Int)) (by omega) (by omega) (by omega)), show (i : Int).toNat = i by omega, show ((j : Int) - (i : Int)).toNat = j - i by omega]
theorem slice_list_from {z : PySem.Str} {i : Nat} (h1 : i ≤ z.length) : (Txt.slice z (some (i : Int)) none).cps.toList = z.cps.toList.drop i := by
  rw [slice_from_eq (x := z) (i := (i : Int)) (b := z.length) (by omega) (by omega) rfl, show (i : Int).toNat = i by omega]
  have hl : (z.cps.toList.drop i).length = z.length - i := by rw [List.length_drop]; rfl
  show (z.cps.toList.drop i).take _ = _
  rw [List.take_of_length_le (by rw [hl]; omega)]
/-- what the state says: out is what has been kept of the first i signs -/
noncomputable def StOk (z : PySem.Str) (i : Nat) (q : Bool) (out : List Nat) (st : Nat × Option Nat × List PySem.Str) : Prop :=
  match st.2.1 with
  | none => q = false ∧ st.1 ≤ i ∧ out = catS st.2.2 ++ (z.cps.toList.drop st.1).take (i - st.1)
  | some o => q = true ∧ st.1 ≤ o ∧ o ≤ i ∧ out = catS st.2.2 ++ (z.cps.toList.drop st.1).take (o - st.1)
theorem take_more {l : List Nat} {s i c : Nat} (hs : s ≤ i) (hc : l[i]? = some c) : (l.drop s).take (i + 1 - s) = (l.drop s).take (i - s) ++ [c] := by
  rw [show i + 1 - s = (i - s) + 1 by omega, List.take_add_one, List.getElem?_drop, show s + (i - s) = i by omega, hc]; rfl
theorem stOk_plain {z : PySem.Str} {i c : Nat} {q : Bool} {out : List Nat} {st : Nat × Option Nat × List PySem.Str} (h : StOk z i q out st) (hc : z.cps.toList[i]? = some c) : StOk z (i + 1) q (out ++ if q then [] else [c]) st := by
  obtain ⟨s, o, r⟩ := st
  cases o with
  | none =>
    obtain ⟨rfl, h1, rfl⟩ := h
    refine ⟨rfl, Nat.le_succ_of_le h1, ?_⟩
    show _ = catS r ++ _
    rw [take_more h1 hc, ← List.append_assoc]; rfl
  | some o =>
    obtain ⟨rfl, h1, h2, rfl⟩ := h
    exact ⟨rfl, h1, Nat.le_succ_of_le h2, by simp⟩
theorem stOk_quote {z : PySem.Str} {i : Nat} {q : Bool} {out : List Nat} {st : Nat × Option Nat × List PySem.Str} (h : StOk z i q out st) (hi : i < z.length) : StOk z (i + 1) (!q) out (stepS z st (i, [34])) := by
  obtain ⟨s, o, r⟩ := st
  cases o with
  | none =>
    obtain ⟨rfl, h1, rfl⟩ := h
    have e : stepS z (s, none, r) (i, [34]) = (s, some i, r) := rfl
    rw [e]
    exact ⟨rfl, h1, Nat.le_succ i, rfl⟩
  | some o =>
    obtain ⟨rfl, h1, h2, rfl⟩ := h
    have e : stepS z (s, some o, r) (i, [34]) = (i + 1, none, if s = o then r else r ++ [Txt.slice z (some (s : Int)) (some (o : Int))]) := rfl
    rw [e]
    refine ⟨rfl, Nat.le_refl _, ?_⟩
    dsimp only at h1 h2 ⊢
    rw [Nat.sub_self, List.take_zero, List.append_nil]
    by_cases hso : s = o
    · rw [if_pos hso, hso, Nat.sub_self, List.take_zero, List.append_nil]
    · rw [if_neg hso, catS_snoc, slice_list h1 (by omega)]
theorem drop_cons {l : List Nat} {i c : Nat} {r : List Nat} (h : l.drop i = c :: r) : l[i]? = some c ∧ l.drop (i + 1) = r ∧ i < l.length := by
  have h0 : (l.drop i)[0]? = some c := by rw [h]; rfl
  rw [List.getElem?_drop] at h0
  refine ⟨h0, ?_, ?_⟩
  · rw [← List.drop_drop, h]; rfl
  · have := (List.getElem?_eq_some_iff.mp h0).1; omega
theorem step_other {z : PySem.Str} {st : Nat × Option Nat × List PySem.Str} {p : Nat} {u : List Nat} (h : u ≠ [34]) : stepS z st (p, u) = st := by
  unfold stepS; rw [if_neg h]
theorem fold_strip {z : PySem.Str} : ∀ (l : List Nat) (i : Nat) (e q : Bool) (out : List Nat) (st : Nat × Option Nat × List PySem.Str), z.cps.toList.drop i = l → i ≤ z.length → StOk z i q out st →
    StOk z z.length (stQ l e q).2 (out ++ stripL l e q) ((unitsF l i e).foldl (stepS z) st)
  | [], i, e, q, out, st, hl, hi, h => by
    have hz : i = z.length := by
      have this : z.cps.toList.length - i = 0 := by
        have := congrArg List.length hl
        rwa [List.length_drop] at this
      have h2 : z.cps.toList.length = z.length := rfl
      omega
    subst hz
    rw [show stripL [] e q = [] from by cases e <;> rfl, List.append_nil]
    cases e with
    | false => exact h
    | true =>
      show StOk z z.length q out (stepS z st (z.length - 1, [92]))
      rw [step_other (by decide)]; exact h
  | c :: l, i, true, q, out, st, hl, hi, h => by
    obtain ⟨hc, hd, hlt⟩ := drop_cons hl
    show StOk z z.length (stQ l false q).2 (out ++ ((if q then [] else [c]) ++ stripL l false q)) ((unitsF l (i + 1) false).foldl (stepS z) (stepS z st (i, [92, c])))
    rw [step_other (by simp), ← List.append_assoc]
    exact fold_strip l (i + 1) false q _ st hd hlt (stOk_plain h hc)
  | c :: l, i, false, q, out, st, hl, hi, h => by
    obtain ⟨hc, hd, hlt⟩ := drop_cons hl
    unfold unitsF stripL stQ
    by_cases h92 : c = 92
    · rw [if_pos h92, if_pos h92, if_pos h92, ← List.append_assoc]
      exact fold_strip l (i + 1) true q _ st hd hlt (stOk_plain h hc)
    · rw [if_neg h92, if_neg h92, if_neg h92]
      by_cases h34 : c = 34
      · rw [if_pos h34, if_pos h34]
        subst h34
        exact fold_strip l (i + 1) false (!q) out _ hd hlt (stOk_quote h hlt)
      · rw [if_neg h34, if_neg h34, ← List.append_assoc, List.foldl_cons, step_other (by simpa using h34)]
        exact fold_strip l (i + 1) false q _ st hd hlt (stOk_plain h hc)
theorem str_join (sep : PySem.Str) (h : sep.cps.toList = []) : ∀ l : List PySem.Str, (Txt.join sep l).cps.toList = catS l := by
  have key : ∀ (l : List PySem.Str) (acc : Array Nat), (l.foldl (fun acc p => acc ++ sep.cps ++ p.cps) acc).toList = acc.toList ++ catS l := by
    intro l
    induction l with
    | nil => intro acc; simp [catS]
    | cons x l ih =>
      intro acc
      rw [List.foldl_cons, ih]
      simp [catS, h]
  intro l
  cases l with
  | nil => rfl
  | cons x l =>
    show (l.foldl (fun acc p => acc ++ sep.cps ++ p.cps) x.cps).toList = _
    rw [key]; rfl
theorem str_ext {a b : PySem.Str} (h : a.cps.toList = b.cps.toList) : a = b := by
  cases a; cases b; congr 1; exact Array.ext' h
theorem quote_str : PySem.Str.ofString "\"" = (⟨#[34]⟩ : PySem.Str) := by decide +kernel
theorem strip_free : ∀ l : List Nat, 34 ∉ l → ∀ e, stripL l e false = l
  | [], _, e => by cases e <;> rfl
  | c :: l, h, true => by
    show [c] ++ stripL l false false = _
    rw [strip_free l (fun q => h (.tail _ q)) false]; rfl
  | c :: l, h, false => by
    unfold stripL
    split
    · show [c] ++ stripL l true false = _
      rw [strip_free l (fun q => h (.tail _ q)) true]; rfl
    · rw [if_neg (fun e : c = 34 => h (by rw [e]; exact .head _))]
      show [c] ++ stripL l false false = _
      rw [strip_free l (fun q => h (.tail _ q)) false]; rfl
theorem empty_str : (PySem.Str.ofString "").cps.toList = [] := by decide +kernel
theorem strip_list (z : PySem.Str) (hq : (stQ z.cps.toList false false).2 = false) : (stripF z).cps.toList = stripL z.cps.toList false false := by
  by_cases h34 : 34 ∈ z.cps.toList
  · have hne : (Builtin.Str.occurrences z (PySem.Str.ofString "\"") 0 z.length 1).isEmpty = false := by
      have := PySem.StrLaws.found_one z 34
      rw [quote_str, ← Bool.not_eq_true', this, decide_eq_true h34]
    rw [strip_some hne]
    have h := fold_strip (z := z) z.cps.toList 0 false false [] (0, none, []) rfl (Nat.zero_le _) ⟨rfl, Nat.le_refl _, rfl⟩
    rw [hq] at h
    unfold endS
    rw [str_join _ empty_str]
    revert h
    generalize hst : (unitsF z.cps.toList 0 false).foldl (stepS z) (0, none, []) = st
    have hst' : foldS z (unitsF z.cps.toList 0 false) = st := hst
    rw [hst']
    obtain ⟨s, o, r⟩ := st
    intro h
    cases o with
    | some o => exact absurd h.1 (by decide)
    | none =>
      obtain ⟨_, h1, h2⟩ := h
      rw [List.nil_append] at h2
      rw [h2]
      dsimp only at h1 ⊢
      have hl : (z.cps.toList.drop s).length = z.length - s := by rw [List.length_drop]; rfl
      rw [List.take_of_length_le (by omega)]
      split
      · rw [catS_snoc, slice_list_from h1]
      · have : s = z.length := by omega
        rw [List.drop_of_length_le (by show z.length ≤ s; omega), List.append_nil]
  · have hne : (Builtin.Str.occurrences z (PySem.Str.ofString "\"") 0 z.length 1).isEmpty = true := by
      have := PySem.StrLaws.found_one z 34
      rw [quote_str]
      rw [decide_eq_false h34] at this
      simpa using this
    rw [strip_none hne, strip_free _ h34]
end Mine
end
section
open PySem PySem.W PyProof.Rows
set_option Elab.async false
set_option maxRecDepth 100000
set_option maxHeartbeats 1000000
namespace Mine
/-- p leaves no state behind; k is what is kept of it -/
noncomputable def Neu (p k : List Nat) : Prop := stQ p false false = (false, false) ∧ kpS (stripL p false false) false = false ∧ kpO (stripL p false false) false = k
theorem Neu.append {p k p' k' : List Nat} (h : Neu p k) (h' : Neu p' k') : Neu (p ++ p') (k ++ k') := by
  obtain ⟨a, b, c⟩ := h
  obtain ⟨a', b', c'⟩ := h'
  refine ⟨?_, ?_, ?_⟩
  · rw [stQ_append, a]; exact a'
  · rw [stripL_append, kpS_append, b, a]; exact b'
  · rw [stripL_append, kpO_append, b, c, a]
    exact congrArg (k ++ ·) c'
theorem plain_strip : ∀ l : List Nat, (∀ c ∈ l, c ≠ 92 ∧ c ≠ 34) → stripL l false false = l ∧ stQ l false false = (false, false) ∧ kpO l false = l ∧ kpS l false = false
  | [], _ => ⟨rfl, rfl, rfl, rfl⟩
  | c :: l, h => by
    obtain ⟨a, b, d, e⟩ := plain_strip l fun x hx => h x (.tail _ hx)
    obtain ⟨h1, h2⟩ := h c (.head _)
    refine ⟨?_, ?_, ?_, ?_⟩
    · unfold stripL; rw [if_neg h1, if_neg h2, a]; rfl
    · unfold stQ; rw [if_neg h1, if_neg h2, b]
    · unfold kpO; rw [if_neg h1, d]
    · unfold kpS; rw [if_neg h1, e]
theorem Neu.plain {l : List Nat} (h : ∀ c ∈ l, c ≠ 92 ∧ c ≠ 34) : Neu l l := by
  obtain ⟨a, b, d, e⟩ := plain_strip l h
  exact ⟨b, by rw [a]; exact e, by rw [a]; exact d⟩
theorem Neu.keep {p k : List Nat} (h : Neu p k) : keepL (stripL p false false) false = k := by
  have := keepL_append (stripL p false false) [] false
  rw [List.append_nil, h.2.1, h.2.2] at this
  rw [this]; simp [keepL]
/-- the text made ready, sign by sign -/
noncomputable def prepL (P : Params) (l : List Nat) : List Nat := (l.filter fun c => !b1F c).flatMap fun c => (mapF P c).cps.toList
theorem prepL_append (P : Params) (a b : List Nat) : prepL P (a ++ b) = prepL P a ++ prepL P b := by unfold prepL; rw [List.filter_append, List.flatMap_append]
noncomputable def mapT : List (Nat × List Nat) := [(65, [97]), (122, [122]), (223, [115, 115]), (383, [115]), (8481, [116, 101, 108]), (64257, [102, 105]), (64259, [102, 102, 105]), (64262, [115, 116]), (119808, [97]), (120763, [963]), (13169, [104, 112, 97]), (8470, [110, 111]),
  (92, [92]), (47, [47]), (34, [34]), (39, [39]), (60, [60]), (62, [62])]
noncomputable def mapC (c : Nat) : List Nat := ((mapT.find? fun e => e.1 == c).map (·.2)).getD []
noncomputable def known (c : Nat) : Bool := mapT.any fun e => e.1 == c
theorem map_vals (P : Params) : (mapT.all fun e => (mapF P e.1).cps.toList == e.2) = true := by kernel_rfl
theorem map_known (P : Params) {c : Nat} (h : known c = true) : (mapF P c).cps.toList = mapC c := by
  unfold mapC
  cases e : mapT.find? fun e => e.1 == c with
  | none =>
    obtain ⟨x, hx, hc⟩ := List.any_eq_true.mp h
    have := List.find?_eq_none.mp e x hx
    exact absurd hc this
  | some p =>
    have h1 := List.mem_of_find?_eq_some e
    have h2 : p.1 = c := eq_of_beq (List.find?_some e : _)
    have h3 := List.all_eq_true.mp (map_vals P) p h1
    rw [← h2]; exact eq_of_beq h3
theorem prep_known (P : Params) {l : List Nat} (h : ∀ c ∈ l, b1F c = false → known c = true) : prepL P l = (l.filter fun c => !b1F c).flatMap mapC := by
  unfold prepL
  have key : ∀ m : List Nat, (∀ c ∈ m, known c = true) → m.flatMap (fun c => (mapF P c).cps.toList) = m.flatMap mapC := by
    intro m
    induction m with
    | nil => intro _; rfl
    | cons c m ih =>
      intro hm
      rw [List.flatMap_cons, List.flatMap_cons, map_known P (hm c (.head _)), ih fun x hx => hm x (.tail _ hx)]
  refine key _ fun c hc => ?_
  rw [List.mem_filter] at hc
  exact h c hc.1 (by simpa using hc.2)
/-- the dress, by kind and letter -/
noncomputable def sigK (p : Nat) : Nat := (signL.getD p 0).toNat
noncomputable def hidK (p : Nat) : Nat := (unseenL.getD (p % 6) 0).toNat
noncomputable def dressT (k p : Nat) : List Nat := [[hidK p], [sigK p], [92, hidK p, sigK p], [92, hidK p, 47], [34, sigK p, 39, hidK p, 34], [34, 92, 34, sigK p, 60, 34]].getD k []
noncomputable def prepK (k p : Nat) : List Nat := ((dressT k p).filter fun c => !b1F c).flatMap mapC
noncomputable def keepK (k p : Nat) : List Nat := kpO (stripL (prepK k p) false false) false
noncomputable def gainK (k p : Nat) : Int := if k = 1 then sumS (heardL.getD p PySem.Str.empty) else if k = 2 then sumS (Txt.slice (heardL.getD p PySem.Str.empty) (some 1) none) else 0
noncomputable def chkK (k p : Nat) : Bool := stQ (prepK k p) false false == (false, false) && kpS (stripL (prepK k p) false false) false == false && (keepK k p).all (fun c => okC c && c != 47 && c != 60 && c != 62) && (dressT k p).all (fun c => b1F c || known c) && decide ((prepK k p).length ≤ 9) && decide ((dressT k p).length ≤ 6)
theorem chk_all : ∀ k < 6, ∀ p < 12, chkK k p = true := by decide +kernel
theorem gain_all : ∀ k < 6, ∀ p < 12, gainK k p = sumI (keepK k p) := by decide +kernel
theorem fmod6 {p : Int} (h0 : 0 ≤ p) (h1 : p < 12) : (p.fmod 6).toNat = p.toNat % 6 := by
  obtain ⟨n, rfl⟩ := Int.eq_ofNat_of_zero_le h0
  rw [Int.fmod_eq_emod_of_nonneg _ (by decide)]
  omega
theorem kind_bd (x : Int) : 0 ≤ kindN x ∧ kindN x < 6 := ⟨Int.fmod_nonneg_of_pos _ (by decide), Int.fmod_lt_of_pos _ (by decide)⟩
theorem pick_bd (x : Int) : 0 ≤ pickN x ∧ pickN x < 12 := ⟨Int.fmod_nonneg_of_pos _ (by decide), Int.fmod_lt_of_pos _ (by decide)⟩
theorem first_bd (x : Int) : -2 ≤ firstN x ∧ firstN x ≤ 2 := by
  have := Int.fmod_nonneg_of_pos x (b := 5) (by decide)
  have := Int.fmod_lt_of_pos x (b := 5) (by decide)
  unfold firstN; omega
theorem second_bd (x : Int) : -2 ≤ secondN x ∧ secondN x ≤ 2 := by
  have := Int.fmod_nonneg_of_pos (x.fdiv 5) (b := 5) (by decide)
  have := Int.fmod_lt_of_pos (x.fdiv 5) (b := 5) (by decide)
  unfold secondN; omega
noncomputable abbrev kdK (x : Int) : Nat := (kindN x).toNat
noncomputable abbrev pkK (x : Int) : Nat := (pickN x).toNat
theorem app_list (a b : PySem.Str) : (a ++ b).cps.toList = a.cps.toList ++ b.cps.toList := by
  show (a.cps ++ b.cps).toList = _
  simp
theorem q_bs : (PySem.Str.ofString "\\").cps.toList = [92] := by decide +kernel
theorem q_sl : (PySem.Str.ofString "/").cps.toList = [47] := by decide +kernel
theorem q_qu : (PySem.Str.ofString "\"").cps.toList = [34] := by decide +kernel
theorem q_ap : (PySem.Str.ofString "'").cps.toList = [39] := by decide +kernel
theorem q_q1 : (PySem.Str.ofString "\"\\\"").cps.toList = [34, 92, 34] := by decide +kernel
theorem q_q2 : (PySem.Str.ofString "<\"").cps.toList = [60, 34] := by decide +kernel
theorem dress_list (x : Int) : (dressS x).cps.toList = dressT (kdK x) (pkK x) := by
  have hk := kind_bd x
  have hp := pick_bd x
  have hh : (hidS x).cps.toList = [hidK (pkK x)] := by
    unfold hidS hidK
    rw [fmod6 hp.1 hp.2]
  have hl : (letS x).cps.toList = [sigK (pkK x)] := rfl
  unfold dressS dressT
  have hc : kdK x = 0 ∨ kdK x = 1 ∨ kdK x = 2 ∨ kdK x = 3 ∨ kdK x = 4 ∨ kdK x = 5 := by unfold kdK; omega
  rcases hc with h | h | h | h | h | h <;> (rw [show (kindN x).toNat = _ from h]; simp only [List.getD_cons_zero, List.getD_cons_succ, app_list, hh, hl, q_bs, q_sl, q_qu, q_ap, q_q1, q_q2, List.cons_append, List.nil_append, h])
theorem five {a : Int} (h : -2 ≤ a ∧ a ≤ 2) : a = -2 ∨ a = -1 ∨ a = 0 ∨ a = 1 ∨ a = 2 := by omega
theorem run_first {a : Int} (h : -2 ≤ a ∧ a ≤ 2) : (Txt.slice (runS a) none (some 1)).cps.toList = (runSg a).take 1 := by
  rcases five h with rfl | rfl | rfl | rfl | rfl <;> decide +kernel
theorem run_rest {a : Int} (h : -2 ≤ a ∧ a ≤ 2) : (Txt.slice (runS a) (some 1) none).cps.toList = (runSg a).drop 1 := by
  rcases five h with rfl | rfl | rfl | rfl | rfl <;> decide +kernel
theorem run_two {a : Int} (h : -2 ≤ a ∧ a ≤ 2) : (Txt.mul (PySem.Str.ofString "<") a).cps.toList ++ (Txt.mul (PySem.Str.ofString ">") (-a)).cps.toList = runSg a := by
  rcases five h with rfl | rfl | rfl | rfl | rfl <;> decide +kernel
theorem run_signs {a : Int} (h : -2 ≤ a ∧ a ≤ 2) : ∀ c ∈ runSg a, c = 60 ∨ c = 62 := by
  rcases five h with rfl | rfl | rfl | rfl | rfl <;> decide +kernel
theorem run_len {a : Int} (h : -2 ≤ a ∧ a ≤ 2) : (runSg a).length ≤ 2 := by
  rcases five h with rfl | rfl | rfl | rfl | rfl <;> decide +kernel
theorem text_list (x : Int) : (textN x).cps.toList = (runSg (firstN x)).take 1 ++ dressT (kdK x) (pkK x) ++ (runSg (firstN x)).drop 1 ++ [47] ++ runSg (secondN x) := by
  unfold textN
  rw [app_list, app_list, app_list, app_list, app_list, run_first (first_bd x), run_rest (first_bd x), dress_list, q_sl, List.append_assoc _ (Txt.mul _ _).cps.toList, run_two (second_bd x)]
/-- what the sign by sign preparing makes of it -/
noncomputable def pieceL (x : Int) : List Nat := (runSg (firstN x)).take 1 ++ prepK (kdK x) (pkK x) ++ (runSg (firstN x)).drop 1 ++ [47] ++ runSg (secondN x)
theorem chk_at (x : Int) : chkK (kdK x) (pkK x) = true := chk_all _ (by have := kind_bd x; unfold kdK; omega) _ (by have := pick_bd x; unfold pkK; omega)
noncomputable def signs : List Nat := [47, 39, 60, 62]
theorem prep_sign (P : Params) {l : List Nat} (h : ∀ c ∈ l, c ∈ signs) : prepL P l = l := by
  have h1 : ∀ c ∈ signs, b1F c = false ∧ known c = true ∧ mapC c = [c] := by decide +kernel
  rw [prep_known P fun c hc _ => (h1 c (h c hc)).2.1]
  induction l with
  | nil => rfl
  | cons c l ih =>
    have hc := h1 c (h c (.head _))
    rw [List.filter_cons, hc.1]
    show (c :: l.filter fun c => !b1F c).flatMap mapC = _
    rw [List.flatMap_cons, hc.2.2, ih fun x hx => h x (.tail _ hx)]; rfl
theorem run_in {a : Int} (h : -2 ≤ a ∧ a ≤ 2) {l : List Nat} (hl : ∀ c ∈ l, c ∈ runSg a) : ∀ c ∈ l, c ∈ signs := fun c hc => by
  rcases run_signs h c (hl c hc) with rfl | rfl <;> decide
theorem prep_piece (P : Params) (x : Int) : prepL P (textN x).cps.toList = pieceL x := by
  have hk := chk_at x
  unfold chkK at hk
  simp only [Bool.and_eq_true] at hk
  rw [text_list, prepL_append, prepL_append, prepL_append, prepL_append, prep_sign P (run_in (first_bd x) fun c hc => List.mem_of_mem_take hc), prep_sign P (run_in (first_bd x) fun c hc => List.mem_of_mem_drop hc), prep_sign P (l := [47]) (by decide), prep_sign P (run_in (second_bd x) fun c hc => hc),
    prep_known P (l := dressT _ _) (fun c hc hb => by
      have := List.all_eq_true.mp hk.1.1.2 c hc
      rw [hb] at this; simpa using this)]
  rfl
theorem sg_plain {l : List Nat} (h : ∀ c ∈ l, c ∈ signs) : ∀ c ∈ l, c ≠ 92 ∧ c ≠ 34 := fun c hc => by
  have : ∀ c ∈ signs, c ≠ 92 ∧ c ≠ 34 := by decide
  exact this c (h c hc)
noncomputable def letK (x : Int) : List Nat := keepK (kdK x) (pkK x)
theorem neu_piece (x : Int) : Neu (pieceL x) (numS (firstN x) (secondN x) (letK x)) := by
  have hk := chk_at x
  unfold chkK at hk
  simp only [Bool.and_eq_true, beq_iff_eq] at hk
  unfold pieceL numS
  refine Neu.append (Neu.append (Neu.append (Neu.append (Neu.plain (sg_plain (run_in (first_bd x) fun c hc => List.mem_of_mem_take hc))) ?_) (Neu.plain (sg_plain (run_in (first_bd x) fun c hc => List.mem_of_mem_drop hc)))) (Neu.plain (by decide))) (Neu.plain (sg_plain (run_in (second_bd x) fun c hc => hc)))
  exact ⟨hk.1.1.1.1.1, hk.1.1.1.1.2, rfl⟩
theorem let_ok (x : Int) : ∀ c ∈ letK x, okC c = true ∧ isLetter c := fun c hc => by
  have hk := chk_at x
  unfold chkK at hk
  simp only [Bool.and_eq_true] at hk
  have := List.all_eq_true.mp hk.1.1.1.2 c hc
  simp only [Bool.and_eq_true, bne_iff_ne] at this
  exact ⟨this.1.1.1, this.1.1.2, this.1.2, this.2⟩
theorem gain_eq (x : Int) : gainN x = sumI (letK x) := by
  have hk := kind_bd x
  have hp := pick_bd x
  have h := gain_all (kdK x) (by unfold kdK; omega) (pkK x) (by unfold pkK; omega)
  unfold letK
  rw [← h]
  unfold gainN gainK
  have e1 : kindN x = 1 ↔ kdK x = 1 := by unfold kdK; omega
  have e2 : kindN x = 2 ↔ kdK x = 2 := by unfold kdK; omega
  simp only [e1, e2]; rfl
end Mine
end
section
open PySem PySem.W PyProof.Rows PySem.Spec PySem.Calls Lean Meta Elab Tactic
open PyProof.Rows.LCg PyProof.Rows.LCt
set_option Elab.async false
set_option maxRecDepth 100000
set_option maxHeartbeats 2000000
namespace Mine
inductive RelsV (R : Value → Value → Prop) : List Value → List Value → Prop
  | nil : RelsV R [] []
  | cons {c v : Value} {cs vs : List Value} : R c v → RelsV R cs vs → RelsV R (c :: cs) (v :: vs)
theorem RelsV.snoc {R : Value → Value → Prop} {c v : Value} (h : R c v) : ∀ {cs vs : List Value}, RelsV R cs vs → RelsV R (cs ++ [c]) (vs ++ [v])
  | _, _, .nil => .cons h .nil
  | _, _, .cons a r => .cons a (r.snoc h)
section
variable {prog : Program} {w : World} {A : Around} {s : Shared} {h₀ : Heap} {L : Addr} {m : PySem.Str → Option Value} {env : Env}
theorem ls_rest {its : Array Value} {elt : PySem.Expr} {x : PySem.Str} {scope : Scope} {cl : List (PySem.Str × Addr)} {S : List (Addr × Obj) → Prop} {Fin : List Value → List (Addr × Obj) → Prop} {news : List (Addr × Obj)} (R : Value → Value → Prop)
    (turn : ∀ v I oI C oC D m₂ ys h tk news (E' : Value → Shared → Prop), v ∈ its.toList → NsObj oC m₂ → m₂ x = some v → Fr h₀ L h m → News h₀ L h ((I, oI) :: (C, oC) :: (D, lst ys) :: news) → Off3 I C D news → ((@Ne Nat I C) ∧ (@Ne Nat I D) ∧ (@Ne Nat C D)) → S news →
      wpAny (model prog w) A (eval elt (compEnvC scope cl C env)) (CompEnd h₀ L m { s with heap := h, toks := tk } I oI C oC D (lst ys) S (TxEl news (R v))) E' { s with heap := h, toks := tk }) (hS : S news) (hmono : ∀ a b, S a → (∀ p ∈ a, p ∈ b) → S b)
    (fin : ∀ ys news', RelsV R its.toList ys → (∀ p ∈ news, p ∈ news') → Fin ys news') : CompRest prog w A h₀ L m env elt x scope cl s S (fun i v => its[i]? = some v) Fin its.size 0 [] news := by
  have key : ∀ (j i : Nat) (ys : List Value) (nw : List (Addr × Obj)), i + j = its.size → RelsV R (its.toList.take i) ys → (∀ p ∈ news, p ∈ nw) → CompRest prog w A h₀ L m env elt x scope cl s S (fun i v => its[i]? = some v) Fin j i ys nw := by
    intro j
    induction j with
    | zero =>
      intro i ys nw hi hy hn
      have e : i = its.toList.length := by simpa using hi
      subst e
      rw [List.take_length] at hy
      exact CompRest.zero (fin ys nw hy hn)
    | succ j ih =>
      intro i ys nw hi hy hn
      refine CompRest.succ ?_
      intro v I oI C oC D m₂ h tk E' hv hC hx F N off ne
      have hc' : its.toList[i]? = some v := by simpa using hv
      refine wpAny_mono (turn v I oI C oC D m₂ ys h tk nw E' (List.mem_of_getElem? hc') hC hx F N off ne (hmono _ _ hS hn)) (fun y s₂ hq => ?_) fun _ _ e => e
      obtain ⟨h', tk', nw', e, F', N', off', hS, hsub, hr⟩ := hq
      refine ⟨h', tk', nw', e, F', N', off', hS, ?_⟩
      refine ih (i + 1) _ nw' (by omega) ?_ fun p hp => hsub p (hn p hp)
      rw [List.take_add_one, hc']
      exact RelsV.snoc hr hy
  exact key its.size 0 [] news (by omega) (by simp only [List.take_zero]; exact .nil) fun _ hp => hp
end
theorem srcAt_mono {h₀ : Heap} {ax : Addr} {its : Array Value} (a b : List (Addr × Obj)) (h : SrcAt h₀ ax its a) (hs : ∀ p ∈ a, p ∈ b) : SrcAt h₀ ax its b := by
  rcases h with h | ⟨o, hm, r⟩
  · exact .inl h
  · exact .inr ⟨o, hs _ hm, r⟩
theorem ints_rel {f : Int → Int} : ∀ {vs ys : List Value} {ns : List Int}, IntsAre vs ns → RelsV (fun v y => ∀ n t, v = .int n t → ∃ u, y = .int (f n) u) vs ys → IntsAre ys (ns.map f)
  | _, _, _, .nil, .nil => .nil
  | _, _, _, .cons n t r, .cons h r' => by
    obtain ⟨u, rfl⟩ := h n t rfl
    exact .cons _ u (ints_rel r r')
theorem ints_mem {v : Value} : ∀ {vs : List Value} {ns : List Int}, IntsAre vs ns → v ∈ vs → ∃ n t, v = .int n t
  | _, _, .cons n t r, h => by
    rcases List.mem_cons.mp h with rfl | h
    · exact ⟨n, t, rfl⟩
    · exact ints_mem r h
end Mine
end
section
open PySem PySem.W PyProof.Rows PySem.Spec PySem.Calls Lean Meta Elab Tactic
open PyProof.Rows.LCg PyProof.Rows.LCt
set_option Elab.async false
set_option maxRecDepth 100000
set_option maxHeartbeats 2000000
namespace Mine
section
variable {prog : Program} {w : World} {A : Around} {E : Value → Shared → Prop} {s : Shared} {h₀ : Heap} {L l : Addr} {m : PySem.Str → Option Value} {news : List (Addr × Obj)} {value slice : PySem.Expr} {its : Array Value} {Q : Value → Shared → Prop}
theorem own_cut {k : Nat} {i : Int} {t : Tok} {n : Nat} (F : Fr h₀ L s.heap m) (N : News h₀ L s.heap news) (hm : (l, W.listOf its n) ∈ news) (hi : i = (k : Int)) (hk : k ≤ its.size) (hz : its.size ≤ 100)
    (h : ∀ D h', Fr h₀ L h' m → News h₀ L h' ((D, W.listOf (its.toList.drop k).toArray 0) :: news) → Q (.ref D) { s with heap := h' })
    (hs : subscripted slice false (.ref l) (.ref s.heap.objs.size) = operate [.ref s.heap.objs.size, .ref l] (getItem (.ref l) (.ref s.heap.objs.size))) (ht : ∀ r, letTemporaryGo value (.ref l) r = pure ()) :
    wpAny (model prog w) A (subscriptTail value slice (.ref l) (.ref s.heap.objs.size)) Q E { s with heap := s.heap.push { cls := .type "slice", data := .fields #[.int i t, .none, .none] } } := by
  subst hi
  have hl : s.heap.IsList l its := ⟨_, (N _ hm).1, rfl, _, rfl⟩
  refine kms_slice_lit (lo := some (k : Int)) (hi := none) F N hl (by constructor) (by constructor) ?_ (fun D h' F' N' _ => h D h' F' N') hs ht (Nat.le_trans hz (by decide))
  unfold kms_pick kms_lo kms_hi
  have h0 : ¬ ((k : Int) < 0) := by omega
  simp only [if_neg h0, Array.length_toList, Int.toNat_natCast]
  rw [Nat.min_eq_left hk, List.take_of_length_le (by rw [List.length_drop, Array.length_toList]; omega)]
theorem own_addL {a b : Addr} {xs ys : List Value} {n k : Nat} (F : Fr h₀ L s.heap m) (N : News h₀ L s.heap news) (ha : (a, W.listOf xs.toArray n) ∈ news) (hb : (b, W.listOf ys.toArray k) ∈ news) (hz : xs.length + ys.length ≤ 100)
    (h : ∀ D h', Fr h₀ L h' m → News h₀ L h' ((D, W.listOf (xs ++ ys).toArray 0) :: news) → Q (.ref D) { s with heap := h' }) : wpAny (model prog w) A (binaryOp .Add (.ref a) (.ref b)) Q E s :=
  add_lists (hsz := Nat.le_trans hz (by decide)) F N ⟨_, (N _ ha).1, rfl, _, rfl⟩ ⟨_, (N _ hb).1, rfl, _, rfl⟩ fun h' F' N' => h _ h' F' N'
end
theorem own_z {ys its : List Value} {k : Nat} (h : ys.length ≤ 6) (h2 : its.length ≤ 6) : ys.length + (its.drop k).length ≤ 100 := by
  rw [List.length_drop]; omega
theorem ints_split : ∀ {vs : List Value} {n : Int} {ns : List Int}, IntsAre vs (n :: ns) → ∃ t r, vs = .int n t :: r ∧ IntsAre r ns
  | _, _, _, .cons n t r => ⟨t, _, rfl, r⟩
theorem six_of {vs : List Value} {ns : List Int} (h : IntsAre vs ns) (h6 : ns.length = 6) : ∃ n1 n2 n3 n4 n5 n6 t1 t2 t3 t4 t5 t6, vs = [.int n1 t1, .int n2 t2, .int n3 t3, .int n4 t4, .int n5 t5, .int n6 t6] := by
  match ns, h6 with
  | [n1, n2, n3, n4, n5, n6], _ =>
    obtain ⟨t1, r1, rfl, h1⟩ := ints_split h
    obtain ⟨t2, r2, rfl, h2⟩ := ints_split h1
    obtain ⟨t3, r3, rfl, h3⟩ := ints_split h2
    obtain ⟨t4, r4, rfl, h4⟩ := ints_split h3
    obtain ⟨t5, r5, rfl, h5⟩ := ints_split h4
    obtain ⟨t6, r6, rfl, h6⟩ := ints_split h5
    cases h6
    exact ⟨n1, n2, n3, n4, n5, n6, t1, t2, t3, t4, t5, t6, rfl⟩
theorem ints_drop : ∀ {vs : List Value} {ns : List Int} (k : Nat), IntsAre vs ns → IntsAre (vs.drop k) (ns.drop k)
  | _, _, 0, h => h
  | _, _, _ + 1, .nil => .nil
  | _, _, k + 1, .cons _ _ r => ints_drop k r
theorem ints_app : ∀ {vs ws : List Value} {ns ms : List Int}, IntsAre vs ns → IntsAre ws ms → IntsAre (vs ++ ws) (ns ++ ms)
  | _, _, _, _, .nil, h => h
  | _, _, _, _, .cons n t r, h => .cons n t (ints_app r h)
theorem len_six {l : List Int} {vs : List Value} (h : l.length ≤ 6) (hv : vs.length = 6) (a : List Int) (ha : IntsAre vs a) : (l ++ a.drop l.length).length = 6 := by
  have := ha.length
  rw [List.length_append, List.length_drop]; omega
theorem n_pick {h₀ h : Heap} {L D c : Addr} {o oc : Obj} {news : List (Addr × Obj)} (N : News h₀ L h news) (h1 : (D, o) ∈ news) (h2 : (c, oc) ∈ news) : News h₀ L h [(D, o), (c, oc)] := fun p hp => by
  rcases List.mem_cons.mp hp with rfl | hp
  · exact N _ h1
  · rw [List.mem_singleton.mp hp]; exact N _ h2
inductive SixNews (h₀ h : Heap) (L D c : Addr) (oc : Obj) : Prop
  | mk (n1 n2 n3 n4 n5 n6 : Int) (t1 t2 t3 t4 t5 t6 : Tok) : News h₀ L h [(D, W.listOf #[.int n1 t1, .int n2 t2, .int n3 t3, .int n4 t4, .int n5 t5, .int n6 t6] 0), (c, oc)] → SixNews h₀ h L D c oc
theorem pack_six {h₀ h : Heap} {L D c : Addr} {oc : Obj} {rest : List (Addr × Obj)} {ys : List Value} {l : List Int} {k : Nat} {b1 b2 b3 b4 b5 b6 : Int} {a1 a2 a3 a4 a5 a6 : Tok}
    (N : News h₀ L h ((D, W.listOf (ys ++ List.drop k (#[Value.int b1 a1, .int b2 a2, .int b3 a3, .int b4 a4, .int b5 a5, .int b6 a6] : Array Value).toList).toArray 0) :: rest)) (hc : (c, oc) ∈ rest) (hi : IntsAre ys l) (hl : l.length ≤ 6) (hk : k = l.length) :
    SixNews h₀ h L D c oc := by
  subst hk
  have h6 : IntsAre [Value.int b1 a1, .int b2 a2, .int b3 a3, .int b4 a4, .int b5 a5, .int b6 a6] [b1, b2, b3, b4, b5, b6] := .cons _ _ (.cons _ _ (.cons _ _ (.cons _ _ (.cons _ _ (.cons _ _ .nil)))))
  obtain ⟨n1, n2, n3, n4, n5, n6, t1, t2, t3, t4, t5, t6, e⟩ := six_of (ints_app hi (ints_drop l.length h6)) (len_six hl (by rfl) _ h6)
  refine ⟨n1, n2, n3, n4, n5, n6, t1, t2, t3, t4, t5, t6, ?_⟩
  have N' := n_pick N (.head _) (.tail _ hc)
  have e' : ys ++ List.drop l.length (#[Value.int b1 a1, .int b2 a2, .int b3 a3, .int b4 a4, .int b5 a5, .int b6 a6] : Array Value).toList = [Value.int n1 t1, .int n2 t2, .int n3 t3, .int n4 t4, .int n5 t5, .int n6 t6] := e
  rw [e'] at N'
  exact N'
end Mine
end
section
open PySem PySem.W PyProof.Rows PySem.Spec PySem.Calls Lean Meta Elab Tactic
set_option Elab.async false
set_option maxRecDepth 100000
set_option maxHeartbeats 2000000
namespace Mine
open PyProof.Rows.LCg PyProof.Rows.LCt
theorem lst_not (ys : List Value) : ¬ isIter (lst ys) := fun h => by
  have c : (lst ys).cls = .type "list" := rfl
  rcases h.1 with q | q | q <;> (rw [c] at q; exact absurd q (by decide))
theorem nsobj_not {o : Obj} {m : PySem.Str → Option Value} (x : NsObj o m) : ¬ isIter o := fun h => by
  obtain ⟨es, ep, hd, _⟩ := x
  exact h.2 _ _ hd
theorem units_two : ∀ (l : List Nat) (i : Nat) (e : Bool), ∀ q ∈ unitsF l i e, q.2.length ≤ 2
  | [], _, false, q, h => by cases h
  | [], i, true, q, h => by
    have : q = (i - 1, [92]) := List.mem_singleton.mp h
    subst this; exact Nat.le_succ 1
  | c :: l, i, true, q, h => by
    rcases List.mem_cons.mp (show q ∈ (i, [92, c]) :: unitsF l (i + 1) false from h) with rfl | h
    · exact Nat.le_refl _
    · exact units_two l _ _ q h
  | c :: l, i, false, q, h => by
    unfold unitsF at h
    split at h
    · exact units_two l _ _ q h
    · rcases List.mem_cons.mp h with rfl | h
      · exact Nat.le_succ _
      · exact units_two l _ _ q h
noncomputable def keptU (us : List (Nat × List Nat)) : List PySem.Str := (us.filter fun u => u.2.length == 1).map fun u => ⟨u.2.toArray⟩
theorem keptU_in {done : List (Nat × List Nat)} {p : Nat} {u : List Nat} (h : u.length = 1) : keptU (done ++ [(p, u)]) = keptU done ++ [⟨u.toArray⟩] := by
  unfold keptU
  rw [List.filter_append, List.map_append]
  congr 1
  simp [h]
theorem keptU_out {done : List (Nat × List Nat)} {p : Nat} {u : List Nat} (h : u.length ≠ 1) : keptU (done ++ [(p, u)]) = keptU done := by
  unfold keptU
  rw [List.filter_append, List.map_append]
  simp [h]
section
variable {w : World} {A : Around} {E : Value → Shared → Prop} {s₁ : Shared} {h₀ : Heap} {L : Addr} {m : PySem.Str → Option Value} {mean : ExcName → Option Value} {mg mb : PySem.Str → Option Value} {env : Env}
/-- one turn of a comprehension over the generator: the unit is kept where it is of one sign -/
noncomputable def GcTurn (w : World) (A : Around) (h₀ : Heap) (L : Addr) (m : PySem.Str → Option Value) (env : Env) (c elt : PySem.Expr) (a b : PySem.Str) (scope : Scope) (cl : List (PySem.Str × Addr)) (s : Shared) : Prop :=
  ∀ (p : Nat) (u : List Nat) (t1 t2 : Tok) (I : Addr) (oI : Obj) (C : Addr) (oC : Obj) (D : Addr) (m₂ : PySem.Str → Option Value) (ys : List Value) (h : Heap) (tk : Nat) (gs : Array GenState) (news : List (Addr × Obj)) (E' : Value → Shared → Prop),
    u.length ≤ 2 → NsObj oC m₂ → m₂ a = some (.int (p : Nat) t1) → m₂ b = some (.str ⟨u.toArray⟩ t2) → Fr h₀ L h m → News h₀ L h ((I, oI) :: (C, oC) :: (D, lst ys) :: news) → Off3 I C D news → ((@Ne Nat I C) ∧ (@Ne Nat I D) ∧ (@Ne Nat C D)) →
    wpAny (model PySem.Challenge.rw_wf0099_01.prog w) A (isTrue c (compEnvC scope cl C env) (eval c (compEnvC scope cl C env))) (fun okb s₃ => if okb = true then
        wpAny (model PySem.Challenge.rw_wf0099_01.prog w) A (eval elt (compEnvC scope cl C env)) (CompEnd h₀ L m { s with heap := h, toks := tk, gens := gs } I oI C oC D (lst ys) (fun _ => True) (fun y news' => (∀ p ∈ news, p ∈ news') ∧ u.length = 1 ∧ ∃ t, y = .str ⟨u.toArray⟩ t)) E' s₃
        else CompEnd h₀ L m { s with heap := h, toks := tk, gens := gs } I oI C oC D (lst ys) (fun _ => True) (fun _ news' => (∀ p ∈ news, p ∈ news') ∧ u.length ≠ 1) .none s₃) E' { s with heap := h, toks := tk, gens := gs }
inductive JGC (w : World) (A : Around) (h₀ : Heap) (L : Addr) (m : PySem.Str → Option Value) (C D G ga g : Addr) (us : List (Nat × List Nat)) (news : List (Addr × Obj)) (s₁ : Shared) (k : Nat) (s' : Shared) : Prop
  | mk (done rest : List (Nat × List Nat)) (h' : Heap) (tk : Nat) (gs : Array GenState) (ys : List Value) (m' : PySem.Str → Option Value) (e it : Addr) (oC oa oe oi : Obj) (gst : GenState) : s' = { s₁ with heap := h', toks := tk, gens := gs } → us = done ++ rest → k = rest.length + 1 → Fr h₀ L h' m → h'.Ns C m' →
      News h₀ L h' ((D, lst ys) :: (news ++ [(G, oC), (ga, oa), (e, oe), (it, oi)])) → G ≤ e → G ≤ it → ys.length ≤ done.length → StrsAre ys (keptU done) → h'.IsGen ga g → gs[g]? = some gst → GenOnly g s₁.gens gs →
      (∀ s'' : Shared, (∀ b ∈ [G, e, it], ∀ o, h'.get? b = some o → s''.heap.get? b = some o) → (∀ b o, h₀.get? b = some o → s''.heap.get? b = some o) →
        gst.Goes (model PySem.Challenge.rw_wf0099_01.prog w) A.in1 (escR G) (escProto G us) rest.length (.send .none) s'') → JGC w A h₀ L m C D G ga g us news s₁ k s'
theorem gc_block {elt iter c : PySem.Expr} {a b : PySem.Str} {pa pb tp : Pos} {kk : Nat} {scope : Scope} {cl : List (PySem.Str × Addr)} {pos : Pos} {G ga g : Nat} {us : List (Nat × List Nat)} {news : List (Addr × Obj)} {RR : Value → Addr → Result → Shared → Prop}
    (hh : A.handled = none) (hroom : A.depth < recursionLimit) (T : Top QV LO mean mg mb h₀)
    (F : Fr h₀ L s₁.heap m) (hn : ∃ oC oa, News h₀ L s₁.heap ((G, oC) :: (ga, oa) :: news)) (hLG : L < G) (hGa : G < ga) (hnews : ∀ p ∈ news, p.1 < G) (EA : EscAt w A G us us.length ga g [G] h₀ s₁) (hsz : us.length ≤ sizeLine) (hu2 : ∀ q ∈ us, q.2.length ≤ 2)
    (hcell : ∀ y ∈ scope.names, y.2 ≠ .cell) (hkind : scope.kind = .function) (hxa : scope.names.lookup a = some .local) (hxb : scope.names.lookup b = some .local) (hab : ¬ a = b)
    (R : GcTurn w A h₀ L m env c elt a b scope cl s₁)
    (hRR : ∀ D C h tk gs m' ys, Fr h₀ L h m → News h₀ L h ((D, lst ys) :: news) → h.Ns C m' → h₀.get? C = none → C ≠ L → C ≠ D → (∀ p ∈ news, p.1 ≠ C) → StrsAre ys (keptU us) → ((∀ k y, k ≠ g → s₁.gens[k]? = some y → y.bare = true) → AllBare gs) → RR (.ref D) C (.ok .next) { s₁ with heap := h, toks := tk, gens := gs }) :
    wpAny (model PySem.Challenge.rw_wf0099_01.prog w) A (newList []) (fun acc s₃ => wpAny (model PySem.Challenge.rw_wf0099_01.prog w) A (newFunctionEnv scope env.globals cl [] env.qual none .none (some env)) (fun cenv s₄ =>
      codeAny (model PySem.Challenge.rw_wf0099_01.prog w) A (.compStart (.ListComp elt [⟨.Tuple [.Name a pa, .Name b pb] kk tp, iter, [c], 0⟩] scope pos) 0 (.ref ga) acc { cenv with scope := relabel scope env }) (RR acc cenv.locals) s₄) E s₃) E s₁ := by
  obtain ⟨oG, oa, N⟩ := hn
  obtain ⟨hgen, gst, hgst, hgo⟩ := EA
  refine wpAny_newObj_type (wpAny_newFunctionEnv hcell (by intro y hy; simp at hy) (fun h₁ hns₁ hsb₁ => ?_) hkind)
  dsimp only at hns₁ hsb₁ ⊢
  generalize hH2 : s₁.heap.push { cls := .type "list", dict := none, data := .seq ([] : List Value).toArray } = H2 at hns₁ hsb₁ ⊢
  have hC : H2.objs.size = s₁.heap.objs.size + 1 := by rw [← hH2, Heap.size_push]
  have hDC : s₁.heap.objs.size ≠ H2.objs.size := by rw [hC]; exact Nat.ne_of_lt (Nat.lt_succ_self _)
  have below : ∀ b, b < s₁.heap.objs.size → b ≠ H2.objs.size ∧ b ≠ s₁.heap.objs.size := fun b hb => ⟨by rw [hC]; exact Nat.ne_of_lt (Nat.lt_succ_of_lt hb), Nat.ne_of_lt hb⟩
  have old : ∀ b o, s₁.heap.get? b = some o → h₁.get? b = some o := fun b o e => hsb₁.extBut b o (below b (Heap.lt_size e)).1 (Heap.get?_push_of_some _ (hH2 ▸ Heap.get?_push_of_some _ e))
  have hacc : h₁.get? s₁.heap.objs.size = some (lst []) := hsb₁.extBut _ _ hDC (Heap.get?_push_of_some _ (hH2 ▸ Heap.get?_push_size _ rfl))
  have fresh₀ : ∀ a, s₁.heap.objs.size ≤ a → h₀.get? a = none := fun a ha => by
    cases e : h₀.get? a with
    | none => rfl
    | some o' => exact absurd (Heap.lt_size (F.keep a o' e)) (Nat.not_lt.mpr ha)
  have hD₀ : h₀.get? s₁.heap.objs.size = none := fresh₀ _ (Nat.le_refl _)
  have hC₀ : h₀.get? H2.objs.size = none := fresh₀ _ (by rw [hC]; exact Nat.le_succ _)
  have hLlt : L < s₁.heap.objs.size := F.ns.lt
  have hDL : s₁.heap.objs.size ≠ L := Ne.symm (below L hLlt).2
  have hCL : H2.objs.size ≠ L := Ne.symm (below L hLlt).1
  have hGlt : G < s₁.heap.objs.size := Heap.lt_size (N (G, oG) (by simp)).1
  have hglt : ga < s₁.heap.objs.size := Heap.lt_size (N (ga, oa) (by simp)).1
  have hGD := below _ hGlt
  have hgD := below _ hglt
  have hnb : ∀ p ∈ news, p.1 ≠ G ∧ p.1 ≠ ga ∧ p.1 ≠ H2.objs.size ∧ p.1 ≠ s₁.heap.objs.size := fun p hp => by
    have z := hnews p hp
    have z' : p.1 < s₁.heap.objs.size := Nat.lt_trans z hGlt
    exact ⟨Nat.ne_of_lt z, Nat.ne_of_lt (Nat.lt_trans z hGa), (below _ z').1, (below _ z').2⟩
  have loop : ∀ s₃ : Shared, s₃ = { s₁ with heap := h₁, toks := s₁.toks + ([] : List (PySem.Str × Value)).length } →
      codeAny (model PySem.Challenge.rw_wf0099_01.prog w) A (.compLoop (.ListComp elt [⟨.Tuple [.Name a pa, .Name b pb] kk tp, iter, [c], 0⟩] scope pos) 0 (.ref ga) (.ref s₁.heap.objs.size) (compEnvC scope cl H2.objs.size env))
        (RR (.ref s₁.heap.objs.size) H2.objs.size) s₃ := by
    rintro s₃ rfl
    refine kct_loop
      (fun k s' => JGC w A h₀ L m H2.objs.size s₁.heap.objs.size G ga g us news s₁ k s') ?_ (us.length + 1)
      ⟨[], us, h₁, _, s₁.gens, [], _, G, G, oG, oa, oG, oG, gst, rfl, rfl, rfl, F.keeps old, hns₁, fun p hp => ?_, Nat.le_refl _, Nat.le_refl _, Nat.le_refl _, .nil, ?_, hgst, ⟨rfl, fun _ _ => rfl⟩, fun s'' hk hb => hgo s'' (fun b hb' o e => hk b (by rw [List.mem_singleton.mp hb']; exact .head _) o (old _ _ e)) hb⟩
    · rintro k s' ⟨done, rest, h', tk, gs, ys, m', e, it, oC, oa, oe, oi, gst, rfl, hus, rfl, F', hn', N', he, hi, hyl, hys, hgen', hgst', hgo', hG⟩
      have eA : h'.get? ga = some oa := (N' (ga, oa) (by simp)).1
      have eD : h'.get? s₁.heap.objs.size = some (lst ys) := (N' (_, lst ys) (.head _)).1
      obtain ⟨oN, eN, xN⟩ := ns_obj hn'
      refine esc_next hh (T.nolimit.keeps F'.keep) hroom hgen' hgst' (hG _ (fun _ _ _ x => x) F'.keep) (fun k p u T₁ t1 t2 h₂ tk₂ gs' e' it' oC' oe' oi' hk hu hT hCT hkept he' hi' eC' ee' ei' x1 x2 hgo₁ => ?_) (fun hz h₂ tk₂ hkept => ?_)
      · have hO := ((hgo'.trans (GenOnly.setGen ({ s₁ with heap := h', toks := tk, gens := gs } : Shared) g .running)).trans (GenOnly.setGen _ g gs'))
        have hgs : ((({ s₁ with heap := h', toks := tk, gens := gs } : Shared).setGen g .running).setGen g gs').gens[g]? = some gs' := setGen_self (gs := .running) (setGen_self hgst')
        revert hO hgs
        generalize ((({ s₁ with heap := h', toks := tk, gens := gs } : Shared).setGen g .running).setGen g gs').gens = GS
        intro hO hgs
        have F₂ : Fr h₀ L h₂ m := ⟨F'.ns.at' fun o x => hkept _ o (Nat.ne_of_lt hLG) (fun _ => hLG) x, fun b o x => by
          have hb : b < G := Nat.lt_trans (Nat.lt_of_lt_of_le (Heap.lt_size x) F'.above) hLG
          exact hkept b o (Nat.ne_of_lt hb) (fun _ => hb) (F'.keep b o x), F'.above⟩
        have fresh : ∀ b, G ≤ b → b ≠ L ∧ h₀.get? b = none := fun b hb => ⟨Nat.ne_of_gt (Nat.lt_of_lt_of_le hLG hb), by
          cases x : h₀.get? b with
          | none => rfl
          | some o => exact absurd (Nat.lt_trans (Nat.lt_of_lt_of_le (Heap.lt_size x) F'.above) hLG) (Nat.not_lt.mpr hb)⟩
        obtain ⟨rest', hr⟩ : ∃ rest', rest = (p, u) :: rest' := by
          cases rest with
          | nil => simp at hk
          | cons x r =>
            refine ⟨r, ?_⟩
            rw [hus] at hu
            have hk' : r.length = k := by simpa using hk
            have : (done ++ x :: r)[(done ++ x :: r).length - 1 - k]? = some x := by
              rw [← hk']
              simp
            rw [this] at hu
            rw [Option.some.inj hu]
        subst hr
        have hk' : rest'.length = k := by simpa using hk
        subst hk'
        have eD₂ : h₂.get? s₁.heap.objs.size = some (lst ys) := hkept _ _ (Ne.symm hGD.2) (fun q => absurd q (lst_not ys)) eD
        have eN₂ : h₂.get? H2.objs.size = some oN := hkept _ _ (Ne.symm hGD.1) (fun q => absurd q (nsobj_not xN)) eN
        have eA₂ : h₂.get? ga = some oa := hkept _ _ (Nat.ne_of_gt hGa) (fun q => absurd q (isGen_not hgen' eA)) eA
        have hn₂ : h₂.Ns H2.objs.size m' := xN.ns eN₂
        -- the iterators are none of ours
        have apart : ∀ (x : Addr) (ox : Obj), h₂.get? x = some ox → (x = G ∨ isIter ox) → x ≠ ga ∧ x ≠ H2.objs.size ∧ x ≠ s₁.heap.objs.size := fun x ox ex hx => by
          rcases hx with rfl | hx
          · exact ⟨Nat.ne_of_lt hGa, hGD.1, hGD.2⟩
          · refine ⟨?_, ?_, ?_⟩ <;> (intro q; rw [q] at ex)
            · rw [eA₂] at ex; cases ex; exact isGen_not hgen' eA hx
            · rw [eN₂] at ex; cases ex; exact nsobj_not xN hx
            · rw [eD₂] at ex; cases ex; exact lst_not ys hx
        have ae := apart _ _ ee' x1
        have ai := apart _ _ ei' x2
        have hoa : ∃ g x y, oa.cls = .type "generator" ∧ oa.data = .fields #[.int g 0, x, y] := by
          obtain ⟨o, x, y, q, hc, hd, _⟩ := id hgen'
          rw [eA] at q; cases q
          exact ⟨_, x, y, hc, hd⟩
        refine go_gen (s := { s₁ with heap := h₂, toks := tk₂, gens := GS }) eA₂ hoa ?_
        refine kcp_assign (env := compEnvC scope cl H2.objs.size env) hh (x := .int (p : Nat) t1) (y := .str ⟨u.toArray⟩ t2) ⟨_, hT, rfl, _, rfl⟩ (lookup_relabel_local hxa) (lookup_relabel_local hxb) (by simp [compEnvC, relabel, hkind]) hn₂ fun h₄ tk₄ hn₄ hs₄ => ?_
        have up : ∀ c o, c ≠ H2.objs.size → h₂.get? c = some o → h₄.get? c = some o := fun c o h2 e => hs₄ c o h2 e
        obtain ⟨oCC, heC, hoC⟩ := ns_obj hn₄
        have F₄ : Fr h₀ L h₄ m := ⟨F₂.ns.at' fun o e => up _ o (Ne.symm hCL) e, fun c o e => up c o (fun q => by rw [q, hC₀] at e; cases e) (F₂.keep c o e), F₂.above⟩
        have N₄ : News h₀ L h₄ ((ga, oa) :: (H2.objs.size, oCC) :: (s₁.heap.objs.size, lst ys) :: (news ++ [(G, oC'), (e', oe'), (it', oi')])) := fun q hq => by
          rcases List.mem_cons.mp hq with rfl | hq
          · exact ⟨up _ _ hgD.1 eA₂, fresh _ (Nat.le_of_lt hGa)⟩
          rcases List.mem_cons.mp hq with rfl | hq
          · exact ⟨heC, hCL, hC₀⟩
          rcases List.mem_cons.mp hq with rfl | hq
          · exact ⟨up _ _ hDC eD₂, hDL, hD₀⟩
          rcases List.mem_append.mp hq with hq | hq
          · have z := N' q (List.mem_cons_of_mem _ (List.mem_append_left _ hq))
            have zn := hnb q hq
            exact ⟨up _ _ zn.2.2.1 (hkept _ _ zn.1 (fun _ => hnews q hq) z.1), z.2⟩
          · simp only [List.mem_cons, List.not_mem_nil, or_false] at hq
            rcases hq with rfl | rfl | rfl
            · exact ⟨up _ _ hGD.1 eC', fresh _ (Nat.le_refl _)⟩
            · exact ⟨up _ _ ae.2.1 ee', fresh _ he'⟩
            · exact ⟨up _ _ ai.2.1 ei', fresh _ hi'⟩
        have off : Off3 ga H2.objs.size s₁.heap.objs.size (news ++ [(G, oC'), (e', oe'), (it', oi')]) := Off3.of fun q hq => by
          rcases List.mem_append.mp hq with hq | hq
          · exact (hnb q hq).2
          · simp only [List.mem_cons, List.not_mem_nil, or_false] at hq
            rcases hq with rfl | rfl | rfl
            · exact ⟨Nat.ne_of_lt hGa, hGD.1, hGD.2⟩
            · exact ae
            · exact ai
        have hus' : us = (done ++ [(p, u)]) ++ rest' := by rw [hus]; simp
        have fin : ∀ (ys' : List Value) (h₅ : Heap) (tk₅ : Nat) (news₅ : List (Addr × Obj)), ys'.length ≤ (done ++ [(p, u)]).length → StrsAre ys' (keptU (done ++ [(p, u)])) → Fr h₀ L h₅ m → News h₀ L h₅ ((ga, oa) :: (H2.objs.size, oCC) :: (s₁.heap.objs.size, lst ys') :: news₅) → (∀ q ∈ news ++ [(G, oC'), (e', oe'), (it', oi')], q ∈ news₅) →
            ∃ q', q' < (rest'.length + 1) + 1 ∧ JGC w A h₀ L m H2.objs.size s₁.heap.objs.size G ga g us news s₁ q' ({ s₁ with heap := h₅, toks := tk₅, gens := GS } : Shared) := by
          intro ys' h₅ tk₅ news₅ hyl₅ hys₅ F₅ N₅ hsub
          have zA := (N₅ (ga, oa) (.head _)).1
          have zC := (N₅ (H2.objs.size, oCC) (.tail _ (.head _))).1
          have zr : ∀ q ∈ news ++ [(G, oC'), (e', oe'), (it', oi')], h₅.get? q.1 = some q.2 ∧ q.1 ≠ L ∧ h₀.get? q.1 = none := fun q hq => N₅ q (.tail _ (.tail _ (.tail _ (hsub q hq))))
          refine ⟨rest'.length + 1, Nat.lt_succ_self _, done ++ [(p, u)], rest', h₅, tk₅, _, ys', _, e', it', oC', oa, oe', oi', gs', rfl, hus', rfl, F₅, hoC.ns zC, fun q hq => ?_, he', hi', hyl₅, hys₅, ?_, hgs, hO, fun s'' hk₃ _ => hgo₁ s'' fun b hb o x => ?_⟩
          · rcases List.mem_cons.mp hq with rfl | hq
            · exact N₅ _ (.tail _ (.tail _ (.head _)))
            rcases List.mem_append.mp hq with hq | hq
            · exact zr q (List.mem_append_left _ hq)
            · simp only [List.mem_cons, List.not_mem_nil, or_false] at hq
              rcases hq with rfl | rfl | rfl | rfl
              · exact zr _ (by simp)
              · exact N₅ _ (.head _)
              · exact zr _ (by simp)
              · exact zr _ (by simp)
          · obtain ⟨o, x, y, q, hc, hd, hsl⟩ := id hgen'
            rw [eA] at q; cases q
            exact ⟨oa, x, y, zA, hc, hd, hsl⟩
          · simp only [List.mem_cons, List.not_mem_nil, or_false] at hb
            rcases hb with rfl | rfl | rfl
            · rw [eC'] at x; cases x
              exact hk₃ _ (by simp) _ (zr (_, oC') (by simp)).1
            · rw [ee'] at x; cases x
              exact hk₃ _ (by simp) _ (zr (_, oe') (by simp)).1
            · rw [ei'] at x; cases x
              exact hk₃ _ (by simp) _ (zr (_, oi') (by simp)).1
        refine wpAny_mono (R p u t1 t2 ga oa H2.objs.size oCC s₁.heap.objs.size _ ys h₄ _ _ _ _ (hu2 (p, u) (by rw [hus]; simp)) hoC (by simp [hab]) (by simp) F₄ N₄ off ⟨hgD.1, hgD.2, Ne.symm hDC⟩) (fun okb s₅ h₅ => ?_) fun _ _ e => e
        cases okb with
        | false =>
          simp only [Bool.false_eq_true, if_false] at h₅ ⊢
          obtain ⟨h₅, tk₅, news₅, rfl, F₅, N₅, off₅, _, hsub, hu1⟩ := h₅
          exact fin ys h₅ tk₅ news₅ (by rw [List.length_append]; exact Nat.le_add_right_of_le hyl) (by rw [keptU_out hu1]; exact hys) F₅ N₅ hsub
        | true =>
          simp only [if_true] at h₅ ⊢
          refine wpAny_mono h₅ (fun y s₆ h₆ => ?_) fun _ _ e => e
          obtain ⟨h₅, tk₅, news₅, rfl, F₅, N₅, off₅, _, hsub, hu1, ty, rfl⟩ := h₆
          have zD := (N₅ (s₁.heap.objs.size, lst ys) (.tail _ (.tail _ (.head _)))).1
          have hdl : done.length ≤ us.length := by rw [hus, List.length_append]; exact Nat.le_add_right _ _
          refine append_at (hsz := by show ys.toArray.size ≤ sizeLine; rw [List.size_toArray]; exact Nat.le_trans hyl (Nat.le_trans hdl hsz)) zD fun h₆ hs₆ hD₆ => ?_
          have off5 := off₅.mem
          refine fin (ys ++ [.str ⟨u.toArray⟩ ty]) h₆ _ news₅ (by rw [List.length_append, List.length_append]; exact Nat.add_le_add_right hyl 1) (by rw [keptU_in hu1]; exact strs_snoc hys) (F₅.change hs₆ hDL hD₀) (fun q hq => ?_) hsub
          rcases List.mem_cons.mp hq with rfl | hq
          · exact ⟨hs₆.extBut _ _ hgD.2 (N₅ _ (.head _)).1, (N₅ _ (.head _)).2⟩
          rcases List.mem_cons.mp hq with rfl | hq
          · exact ⟨hs₆.extBut _ oCC (Ne.symm hDC) (N₅ _ (.tail _ (.head _))).1, hCL, hC₀⟩
          rcases List.mem_cons.mp hq with rfl | hq
          · exact ⟨hD₆.trans (congrArg some (lst_snoc ys _)), hDL, hD₀⟩
          · exact ⟨hs₆.extBut _ _ (off5 q hq).2.2 (N₅ q (.tail _ (.tail _ (.tail _ hq)))).1, (N₅ q (.tail _ (.tail _ (.tail _ hq)))).2⟩
      · have hr : rest = [] := List.eq_nil_of_length_eq_zero hz
        subst hr
        rw [List.append_nil] at hus
        subst hus
        have F₂ : Fr h₀ L h₂ m := ⟨F'.ns.at' fun o x => hkept _ o (Nat.ne_of_lt hLG) (fun _ => hLG) x, fun b o x => by
          have hb : b < G := Nat.lt_trans (Nat.lt_of_lt_of_le (Heap.lt_size x) F'.above) hLG
          exact hkept b o (Nat.ne_of_lt hb) (fun _ => hb) (F'.keep b o x), F'.above⟩
        refine hRR s₁.heap.objs.size H2.objs.size h₂ tk₂ _ m' ys F₂ (fun q hq => ?_) (xN.ns (hkept _ _ (Ne.symm hGD.1) (fun q => absurd q (nsobj_not xN)) eN)) hC₀ hCL (Ne.symm hDC) (fun p hp => (hnb p hp).2.2.1) hys (fun hb => ?_)
        · rcases List.mem_cons.mp hq with rfl | hq
          · exact ⟨hkept _ _ (Ne.symm hGD.2) (fun q => absurd q (lst_not ys)) eD, hDL, hD₀⟩
          · have z := N' q (.tail _ (List.mem_append_left _ hq))
            exact ⟨hkept _ _ (hnb q hq).1 (fun _ => hnews q hq) z.1, z.2⟩
        · refine genOnly_bare ((hgo'.trans (GenOnly.setGen _ g .running)).trans (GenOnly.setGen _ g .finished)) (fun y hy => ?_) hb
          rw [setGen_self (gs := .running) (setGen_self hgst')] at hy
          cases hy; rfl
    · rcases List.mem_cons.mp hp with rfl | hp
      · exact ⟨hacc, hDL, hD₀⟩
      · have hm : p ∈ (G, oG) :: (ga, oa) :: news := by
          rcases List.mem_append.mp hp with hp | hp
          · exact .tail _ (.tail _ hp)
          · simp only [List.mem_cons, List.not_mem_nil, or_false] at hp
            rcases hp with rfl | rfl | rfl | rfl
            · exact .head _
            · exact .tail _ (.head _)
            · exact .head _
            · exact .head _
        exact ⟨old _ _ (N p hm).1, (N p hm).2⟩
    · obtain ⟨o, x, y, q, r⟩ := hgen
      exact ⟨o, x, y, old _ _ q, r⟩
  refine codeAny_compStart_list (loop _ rfl) (wpAny_pyIter_gen (g := g) ?_ (loop _ rfl))
  obtain ⟨o, x, y, q, r⟩ := hgen
  exact ⟨o, x, y, old _ _ q, r⟩
/-- the value of the iterable: the generator, ready -/
noncomputable def GcSrc (w : World) (A : Around) (mean : ExcName → Option Value) (mg mb : PySem.Str → Option Value) (h₀ : Heap) (L : Addr) (m : PySem.Str → Option Value) (env : Env) (c elt : PySem.Expr) (a b : PySem.Str) (scope : Scope) (cl : List (PySem.Str × Addr)) (Q : Value → Shared → Prop) (xv : Value) (s₁ : Shared) : Prop :=
  ∃ (G ga g : Nat) (us : List (Nat × List Nat)) (news : List (Addr × Obj)), xv = .ref ga ∧ A.handled = none ∧ A.depth < recursionLimit ∧ Top QV LO mean mg mb h₀ ∧ Fr h₀ L s₁.heap m ∧ (∃ oC oa, News h₀ L s₁.heap ((G, oC) :: (ga, oa) :: news)) ∧ L < G ∧ G < ga ∧ (∀ p ∈ news, p.1 < G) ∧
    EscAt w A G us us.length ga g [G] h₀ s₁ ∧ us.length ≤ sizeLine ∧ (∀ q ∈ us, q.2.length ≤ 2) ∧ GcTurn w A h₀ L m env c elt a b scope cl s₁ ∧
    ∀ D h tk gs ys, Fr h₀ L h m → News h₀ L h ((D, lst ys) :: news) → StrsAre ys (keptU us) → ((∀ k y, k ≠ g → s₁.gens[k]? = some y → y.bare = true) → AllBare gs) → Q (.ref D) { s₁ with heap := h, toks := tk, gens := gs }
theorem gc_ListComp {s : Shared} {elt iter c : PySem.Expr} {a b : PySem.Str} {pa pb tp : Pos} {kk : Nat} {scope : Scope} {cl : List (PySem.Str × Addr)} {pos : Pos} {Q : Value → Shared → Prop}
    (hclos : closureFor scope env = pure cl) (hcell : ∀ y ∈ scope.names, y.2 ≠ .cell) (hkind : scope.kind = .function)
    (hnames : ∀ y ∈ scope.names, y.2 = .local → scope.names.lookup y.1 = some .local) (hxa : scope.names.lookup a = some .local) (hxb : scope.names.lookup b = some .local) (hab : ¬ a = b)
    (h : wpAny (model PySem.Challenge.rw_wf0099_01.prog w) A (eval iter env) (GcSrc w A mean mg mb h₀ L m env c elt a b scope cl Q) E s)
    (hs : ∀ x, foldedSetIterable iter env x = pure x := by intro _; rfl) :
    wpAny (model PySem.Challenge.rw_wf0099_01.prog w) A (eval (.ListComp elt [⟨.Tuple [.Name a pa, .Name b pb] kk tp, iter, [c], 0⟩] scope pos) env) Q E s := by
  rw [eval_ListComp]
  refine wpAny_comprehension_free (use := none) rfl hs hclos hkind hnames (wpAny_mono h (fun xv s₁ h₁ => ?_) fun _ _ e => e)
  obtain ⟨G, ga, g, us, news, rfl, hh, hroom, T, F, hn, hLG, hGa, hnews, EA, hsz, hu2, R, fin⟩ := h₁
  refine wpAny_pyIter_gen EA.1 ?_
  refine gc_block hh hroom T F hn hLG hGa hnews EA hsz hu2 hcell hkind hxa hxb hab R ?_
  intro D C h tk gs m' ys F' N' hnC hC₀ hCL hCD offC hys hb
  refine ⟨m', hnC, fun h'' hs'' => fin D h'' tk gs ys (F'.change hs'' hCL hC₀) (fun p hp => ?_) hys hb⟩
  refine ⟨hs''.extBut _ _ ?_ (N' p hp).1, (N' p hp).2⟩
  rcases List.mem_cons.mp hp with rfl | hp
  · exact Ne.symm hCD
  · exact offC p hp
end
end Mine
end
section
open PySem PySem.W PyProof.Rows
set_option Elab.async false
set_option maxRecDepth 100000
set_option maxHeartbeats 1000000
namespace Mine
/-- one word's signs -/
noncomputable def wordL (x y : Int) : List Nat := numS (firstN x) (secondN x) (letK x) ++ [47] ++ numS (firstN y) (secondN y) (letK y)
noncomputable def pairL (x y : Int) : List Nat := pieceL x ++ [47] ++ pieceL y
noncomputable def pre6 (a b c d e f : Int) : List Nat := pairL a b ++ [39] ++ pairL c d ++ [39] ++ pairL e f
noncomputable def txL (a b c d e f : Int) : List Nat := ((textN a).cps.toList ++ [47] ++ (textN b).cps.toList) ++ [39] ++ ((textN c).cps.toList ++ [47] ++ (textN d).cps.toList) ++ [39] ++ ((textN e).cps.toList ++ [47] ++ (textN f).cps.toList)
theorem prep_six (P : Params) (a b c d e f : Int) : prepL P (txL a b c d e f) = pre6 a b c d e f := by
  unfold txL pre6 pairL
  simp only [prepL_append, prep_piece, prep_sign P (l := [47]) (by decide), prep_sign P (l := [39]) (by decide)]
theorem neu_pair (x y : Int) : Neu (pairL x y) (wordL x y) := ((neu_piece x).append (Neu.plain (by decide))).append (neu_piece y)
theorem neu_39 : Neu [39] [39] := Neu.plain (by decide)
theorem neu_47 : Neu [47] [47] := Neu.plain (by decide)
theorem neu_six (a b c d e f : Int) : Neu (pre6 a b c d e f) (wordL a b ++ [39] ++ wordL c d ++ [39] ++ wordL e f) :=
  ((((neu_pair a b).append neu_39).append (neu_pair c d)).append neu_39).append (neu_pair e f)
theorem piece_len (x : Int) : (pieceL x).length ≤ 14 := by
  have hk := chk_at x
  unfold chkK at hk
  simp only [Bool.and_eq_true, decide_eq_true_eq] at hk
  have h1 := run_len (first_bd x)
  have h2 := run_len (second_bd x)
  have h3 := hk.1.2
  unfold pieceL
  simp only [List.length_append, List.length_take, List.length_drop, List.length_cons, List.length_nil]
  omega
theorem text_len (x : Int) : (textN x).length ≤ 11 := by
  have hk := chk_at x
  unfold chkK at hk
  simp only [Bool.and_eq_true, decide_eq_true_eq] at hk
  have h1 := run_len (first_bd x)
  have h2 := run_len (second_bd x)
  have h3 := hk.2
  have e : (textN x).length = (textN x).cps.toList.length := rfl
  rw [e, text_list]
  simp only [List.length_append, List.length_take, List.length_drop, List.length_cons, List.length_nil]
  omega
theorem pre_len (a b c d e f : Int) : (pre6 a b c d e f).length ≤ 89 := by
  have h1 := piece_len a; have h2 := piece_len b; have h3 := piece_len c; have h4 := piece_len d; have h5 := piece_len e; have h6 := piece_len f
  unfold pre6 pairL
  simp only [List.length_append, List.length_cons, List.length_nil]
  omega
theorem strip_six {z : PySem.Str} {a b c d e f : Int} (h : z.cps.toList = pre6 a b c d e f) : keepL (stripF z).cps.toList false = wordL a b ++ [39] ++ wordL c d ++ [39] ++ wordL e f := by
  have n := neu_six a b c d e f
  rw [strip_list z (by rw [h, n.1]), h, n.keep]
theorem num_ok (x : Int) : ∀ c ∈ numS (firstN x) (secondN x) (letK x), okC c = true := by
  intro c hc
  unfold numS at hc
  have sg : ∀ c, c = 60 ∨ c = 62 → okC c = true := fun c h => by rcases h with rfl | rfl <;> decide
  simp only [List.mem_append, List.mem_singleton] at hc
  rcases hc with (((hc | hc) | hc) | rfl) | hc
  · exact sg c (run_signs (first_bd x) c (List.mem_of_mem_take hc))
  · exact (let_ok x c hc).1
  · exact sg c (run_signs (first_bd x) c (List.mem_of_mem_drop hc))
  · decide
  · exact sg c (run_signs (second_bd x) c hc)
theorem word_ok (x y : Int) : (wordL x y).all okC = true := by
  rw [List.all_eq_true]
  intro c hc
  unfold wordL at hc
  simp only [List.mem_append, List.mem_singleton] at hc
  rcases hc with (hc | rfl) | hc
  · exact num_ok x c hc
  · decide
  · exact num_ok y c hc
theorem word_no39 (x y : Int) : 39 ∉ wordL x y := fun h => absurd (List.all_eq_true.mp (word_ok x y) 39 h) (by decide)
theorem split_six {z : PySem.Str} {a b c d e f : Int} (h : z.cps.toList = wordL a b ++ [39] ++ wordL c d ++ [39] ++ wordL e f) : Txt.splitMax z (PySem.Str.ofString "'") 2 = [⟨(wordL a b).toArray⟩, ⟨(wordL c d).toArray⟩, ⟨(wordL e f).toArray⟩] := by
  have hz : z = ⟨(wordL a b ++ [39] ++ wordL c d ++ [39] ++ wordL e f).toArray⟩ := str_ext (by rw [h])
  rw [hz]
  exact split_three _ _ _ (word_no39 a b) (word_no39 c d) (word_no39 e f)
theorem stripL_len : ∀ (l : List Nat) (e q : Bool), (stripL l e q).length ≤ l.length
  | [], e, _ => by cases e <;> exact Nat.le_refl _
  | c :: l, true, q => by
    have := stripL_len l false q
    show ((if q then [] else [c]) ++ stripL l false q).length ≤ _
    cases q <;> simp <;> omega
  | c :: l, false, q => by
    unfold stripL
    split
    · have := stripL_len l true q
      cases q <;> simp <;> omega
    · split
      · have := stripL_len l false !q
        simp; omega
      · have := stripL_len l false q
        cases q <;> simp <;> omega
theorem bare_len {z : PySem.Str} {a b c d e f : Int} (h : z.cps.toList = pre6 a b c d e f) : (stripF z).length ≤ 89 := by
  have n := neu_six a b c d e f
  have e : (stripF z).length = (stripF z).cps.toList.length := rfl
  rw [e, strip_list z (by rw [h, n.1]), h]
  exact Nat.le_trans (stripL_len _ _ _) (pre_len _ _ _ _ _ _)
theorem num_len' (x : Int) : (numS (firstN x) (secondN x) (letK x)).length ≤ 14 := by
  have hk := chk_at x
  unfold chkK at hk
  simp only [Bool.and_eq_true, decide_eq_true_eq] at hk
  have h1 := run_len (first_bd x)
  have h2 := run_len (second_bd x)
  have h3 := hk.1.2
  have h4 : (letK x).length ≤ 9 := by
    have q : ∀ (l : List Nat) (e : Bool), (kpO l e).length ≤ l.length := by
      intro l
      induction l with
      | nil => intro e; cases e <;> exact Nat.le_refl _
      | cons c l ih =>
        intro e
        cases e with
        | true => exact Nat.le_trans (ih false) (Nat.le_succ _)
        | false =>
          unfold kpO
          split
          · exact Nat.le_trans (ih true) (Nat.le_succ _)
          · exact Nat.succ_le_succ (ih false)
    unfold letK keepK
    exact Nat.le_trans (Nat.le_trans (q _ _) (stripL_len _ _ _)) h3
  unfold numS
  simp only [List.length_append, List.length_take, List.length_drop, List.length_cons, List.length_nil]
  omega
theorem word_len (x y : Int) : (wordL x y).length ≤ 29 := by
  have h1 := num_len' x
  have h2 := num_len' y
  unfold wordL
  simp only [List.length_append, List.length_cons, List.length_nil]
  omega
theorem kept_len {z : PySem.Str} {a b c d e f : Int} (h : z.cps.toList = wordL a b ++ [39] ++ wordL c d ++ [39] ++ wordL e f) : z.length ≤ 200 := by
  have h1 := word_len a b; have h2 := word_len c d; have h3 := word_len e f
  have e : z.length = z.cps.toList.length := rfl
  rw [e, h]
  simp only [List.length_append, List.length_cons, List.length_nil]
  omega
/-- the numbers of the law for one word -/
noncomputable def pW (a b c d : Int) : Int := a * b + a * d + c * d - 1 - a * b * c * d
noncomputable def qW (a b c : Int) : Int := a + c - a * b * c
noncomputable def rW (a b : Int) : Int := a - a * b
theorem word_ends (x y : Int) : ∃ l, Syms ⟨(wordL x y).toArray⟩ 0 l ∧ l.length ≤ 200 ∧ (∀ t ∈ l, goodT t) ∧ ∀ u s : Int, E4 (l.foldl (fun p t => stepP t p) (u, u, u - s, u - s))
    (addQ (gainN x + gainN y) (u + s * rW (firstN x) (secondN x), u + s * rW (firstN x) (secondN x) + s * pW (firstN x) (secondN x) (firstN y) (secondN y), u + s * rW (firstN x) (secondN x) + s * pW (firstN x) (secondN x) (firstN y) (secondN y) - s * qW (firstN x) (secondN x) (firstN y), u + s * rW (firstN x) (secondN x) - s * qW (firstN x) (secondN x) (firstN y))) := by
  have hz : ((⟨(wordL x y).toArray⟩ : PySem.Str).cps.toList) = wordL x y := by simp
  obtain ⟨l, h1, h2, h3, h4⟩ := word_syms (z := ⟨(wordL x y).toArray⟩) (by rw [hz]; exact word_ok x y) _ 0 (Nat.le_refl _)
  have hl : (⟨(wordL x y).toArray⟩ : PySem.Str).length = (wordL x y).length := by show (wordL x y).toArray.size = _; simp
  refine ⟨l, by exact_mod_cast h1, ?_, h3, fun u s => ?_⟩
  · have := word_len x y
    rw [hl] at h2; omega
  · have h := h4 (u, u, u - s, u - s) _ (E4.refl _)
    rw [hz, List.drop_zero] at h
    unfold wordL at h
    rw [wordQ_word u s _ _ _ _ _ _ (fun c hc => (let_ok x c hc).2) (fun c hc => (let_ok y c hc).2), ← gain_eq, ← gain_eq] at h
    unfold pW qW rW
    exact h
end Mine
end
section
open PySem PySem.W PyProof.Rows PySem.Spec PySem.Calls Lean Meta Elab Tactic
open PyProof.Rows.LCg PyProof.Rows.LCt
set_option Elab.async false
set_option maxRecDepth 100000
set_option maxHeartbeats 2000000
namespace Mine
section
variable {prog : Program} {w : World} {A : Around} {E : Value → Shared → Prop} {s : Shared} {h₀ : Heap} {L : Addr} {m : PySem.Str → Option Value} {env : Env}
/-- a comprehension over a written tuple -/
noncomputable def TupIn (ax : Addr) (its : Array Value) (news : List (Addr × Obj)) : Prop := ∃ o, (ax, o) ∈ news ∧ o.cls = .type "tuple" ∧ ∃ n, o.data = .seq its n
noncomputable def SrcTp (prog : Program) (w : World) (A : Around) (h₀ : Heap) (L : Addr) (m : PySem.Str → Option Value) (env : Env) (elt : PySem.Expr) (x : PySem.Str) (scope : Scope) (cl : List (PySem.Str × Addr)) (Fin : Shared → List Value → List (Addr × Obj) → Prop) (xv : Value) (s₁ : Shared) : Prop :=
  ∃ ax its news, xv = .ref ax ∧ A.handled = none ∧ Fr h₀ L s₁.heap m ∧ News h₀ L s₁.heap news ∧ TupIn ax its news ∧ its.size ≤ sizeLine ∧
    ∀ s₂ : Shared, (∃ h, s₂ = { s₁ with heap := h }) → CompRest prog w A h₀ L m env elt x scope cl s₂ (TupIn ax its) (fun i v => its[i]? = some v) (Fin s₂) its.size 0 [] news
theorem TupIn.isTup {ax : Addr} {its : Array Value} {news : List (Addr × Obj)} {h : Heap} (S : TupIn ax its news) (N : News h₀ L h news) : h.IsTuple ax its := by
  obtain ⟨o, hm, hc, n, hd⟩ := S
  exact ⟨o, (N _ hm).1, hc, n, hd⟩
theorem SrcTp.intro {elt : PySem.Expr} {x : PySem.Str} {scope : Scope} {cl : List (PySem.Str × Addr)} {Fin : Shared → List Value → List (Addr × Obj) → Prop} {ax : Addr} {its : Array Value} {k : Nat} {news : List (Addr × Obj)} {s₁ : Shared}
    (hh : A.handled = none) (F : Fr h₀ L s₁.heap m) (N : News h₀ L s₁.heap news) (hm : (ax, ({ cls := .type "tuple", data := .seq its k } : Obj)) ∈ news) (hsz : its.size ≤ sizeLine)
    (h : ∀ g, CompRest prog w A h₀ L m env elt x scope cl { s₁ with heap := g } (TupIn ax its) (fun i v => its[i]? = some v) (Fin { s₁ with heap := g }) its.size 0 [] news) :
    SrcTp prog w A h₀ L m env elt x scope cl Fin (.ref ax) s₁ := ⟨ax, its, news, rfl, hh, F, N, ⟨_, hm, rfl, _, rfl⟩, hsz, fun _ ⟨g, e⟩ => e ▸ h g⟩
theorem ListComp_Tp {elt iter : PySem.Expr} {x : PySem.Str} {px : Pos} {scope : Scope} {cl : List (PySem.Str × Addr)} {pos : Pos} {Q : Value → Shared → Prop} (_F₀ : Fr h₀ L s.heap m)
    (hclos : closureFor scope env = pure cl) (hcell : ∀ y ∈ scope.names, y.2 ≠ .cell) (hkind : scope.kind = .function)
    (hnames : ∀ y ∈ scope.names, y.2 = .local → scope.names.lookup y.1 = some .local) (hx : scope.names.lookup x = some .local)
    (h : wpAny (model prog w) A (eval iter env) (SrcTp prog w A h₀ L m env elt x scope cl (fun s₂ => FinE h₀ L m s₂ Q)) E s)
    (hs : ∀ x, foldedSetIterable iter env x = pure x) :
    wpAny (model prog w) A (eval (.ListComp elt [⟨.Name x px, iter, [], 0⟩] scope pos) env) Q E s := by
  rw [eval_ListComp]
  refine wpAny_comprehension_free (use := none) rfl hs hclos hkind hnames (wpAny_mono h (fun xv s₁ h₁ => ?_) fun _ _ e => e)
  rcases h₁ with ⟨ax, its, news, rfl, hh, F, N, S, hsz, R⟩
  have hl := S.isTup N
  have hlt : ax < s₁.heap.objs.size := by obtain ⟨_, e, _⟩ := hl; exact Heap.lt_size e
  refine wpAny_pyIter_tuple hl ?_
  have up : ∀ b o, s₁.heap.get? b = some o → (s₁.heap.push { cls := .type "tuple_iterator", data := .fields #[.ref ax, .int 0 0] }).get? b = some o := fun b o e => Heap.get?_push_of_some _ e
  refine block_U (S := TupIn ax its) (Walks.tuple hh s₁.heap.objs.size ax (Nat.ne_of_lt hlt) its) hsz (fun i h st => by obtain ⟨o, e, _⟩ := st.1; exact ⟨o, e⟩)
    (fun i h h' o nw st e e' k N S => ⟨by obtain ⟨o', q, r⟩ := st.1; rw [e] at q; cases q; exact ⟨o, e', r⟩, S.isTup N⟩) hcell hkind hx ⟨⟨_, Heap.get?_push_size _ rfl, rfl, rfl⟩, hl.at fun o e => up _ o e⟩ (fun b hb => ?_)
    (F.keeps up) (N.grown up) (Nat.ne_of_lt F.ns.lt) (next_is_new F) (fun p hp => Nat.ne_of_lt (Heap.lt_size (N p hp).1)) S (R _ ⟨_, rfl⟩) ?_
  · show b < (s₁.heap.push _).objs.size
    rw [Heap.size_push]
    rcases List.mem_cons.mp hb with rfl | hb
    · exact Nat.lt_succ_self _
    · rw [List.mem_singleton.mp hb]; exact Nat.lt_succ_of_lt hlt
  · intro D C h tk m' ys news' F' N' o1 hn hC₀ hD₀ hCL hDL hCD offC fin
    refine ⟨m', hn, fun h'' hs'' => fin D h'' tk (F'.change hs'' hCL hC₀) (fun p hp => ?_) o1⟩
    refine ⟨hs''.extBut _ _ ?_ (N' p hp).1, (N' p hp).2⟩
    rcases List.mem_cons.mp hp with rfl | hp
    · exact Ne.symm hCD
    · exact offC p hp
/-- a comprehension over a text, with a test -/
theorem tx_restT {z : PySem.Str} {ct elt : PySem.Expr} {x : PySem.Str} {scope : Scope} {cl : List (PySem.Str × Addr)} {Fin : List Value → List (Addr × Obj) → Prop} {news : List (Addr × Obj)} (pz : Nat → Bool) (R : Nat → Value → Prop)
    (turn : ∀ c t I oI C oC D m₂ ys h tk news (E' : Value → Shared → Prop), c ∈ z.cps.toList → NsObj oC m₂ → m₂ x = some (.str ⟨#[c]⟩ t) → Fr h₀ L h m → News h₀ L h ((I, oI) :: (C, oC) :: (D, lst ys) :: news) → Off3 I C D news → ((@Ne Nat I C) ∧ (@Ne Nat I D) ∧ (@Ne Nat C D)) →
      wpAny (model prog w) A (isTrue ct (compEnvC scope cl C env) (eval ct (compEnvC scope cl C env))) (fun ok s' => if ok = true then
        wpAny (model prog w) A (eval elt (compEnvC scope cl C env)) (CompEnd h₀ L m { s with heap := h, toks := tk } I oI C oC D (lst ys) (fun _ => True) (fun y news' => (∀ p ∈ news, p ∈ news') ∧ pz c = true ∧ R c y)) E' s'
        else CompEnd h₀ L m { s with heap := h, toks := tk } I oI C oC D (lst ys) (fun _ => True) (fun _ news' => (∀ p ∈ news, p ∈ news') ∧ pz c = false) Value.none s') E' { s with heap := h, toks := tk })
    (fin : ∀ ys news', Rels R (z.cps.toList.filter pz) ys → (∀ p ∈ news, p ∈ news') → Fin ys news') : CompRestT prog w A h₀ L m env ct elt x scope cl s (fun _ => True) (SignAt z) Fin z.cps.size 0 [] news := by
  have key : ∀ (j i : Nat) (ys : List Value) (nw : List (Addr × Obj)), i + j = z.cps.size → Rels R ((z.cps.toList.take i).filter pz) ys → (∀ p ∈ news, p ∈ nw) → CompRestT prog w A h₀ L m env ct elt x scope cl s (fun _ => True) (SignAt z) Fin j i ys nw := by
    intro j
    induction j with
    | zero =>
      intro i ys nw hi hy hn
      have e : i = z.cps.toList.length := by simpa using hi
      subst e
      rw [List.take_length] at hy
      exact CompRestT.zero (fin ys nw hy hn)
    | succ j ih =>
      intro i ys nw hi hy hn
      refine CompRestT.succ ?_
      intro v I oI C oC D m₂ h tk E' hv hC hx F N off ne
      obtain ⟨c, t, hc, hv'⟩ := hv
      rw [hv'] at hx
      have hc' : z.cps.toList[i]? = some c := by simpa using hc
      refine wpAny_mono (turn c t I oI C oC D m₂ ys h tk nw E' (List.mem_of_getElem? hc') hC hx F N off ne) (fun ok s₂ hq => ?_) fun _ _ e => e
      cases ok with
      | true =>
        simp only [if_true] at hq ⊢
        refine wpAny_mono hq (fun y s₃ hq => ?_) fun _ _ e => e
        obtain ⟨h', tk', nw', e, F', N', off', hS, hsub, hpz, hr⟩ := hq
        refine ⟨h', tk', nw', e, F', N', off', hS, ih (i + 1) _ nw' (by omega) ?_ fun p hp => hsub p (hn p hp)⟩
        rw [List.take_add_one, hc', List.filter_append]
        have : List.filter pz (some c).toList = [c] := by simp [hpz]
        rw [this]
        exact Rels.snoc hr hy
      | false =>
        simp only [Bool.false_eq_true, if_false] at hq ⊢
        obtain ⟨h', tk', nw', e, F', N', off', hS, hsub, hpz⟩ := hq
        refine ⟨h', tk', nw', e, F', N', off', hS, ih (i + 1) _ nw' (by omega) ?_ fun p hp => hsub p (hn p hp)⟩
        rw [List.take_add_one, hc', List.filter_append]
        have : List.filter pz (some c).toList = [] := by simp [hpz]
        rw [this, List.append_nil]
        exact hy
  exact key z.cps.size 0 [] news (by omega) (by simp only [List.take_zero]; exact .nil) fun _ hp => hp
theorem Rels.strs {f : Nat → PySem.Str} {cs : List Nat} {vs : List Value} (h : Rels (fun c v => ∃ t, v = .str (f c) t) cs vs) : StrsAre vs (cs.map f) := by
  induction h with
  | nil => exact .nil
  | cons hv _ ih =>
    obtain ⟨t, rfl⟩ := hv
    exact .cons _ _ ih
end
/-- a cell is filled: nothing else changes -/
theorem own_cell {M : Model} {A : Around} {E : Value → Shared → Prop} {s : Shared} {h₀ : Heap} {L a : Addr} {m : PySem.Str → Option Value} {cn : PySem.Str} {cs : Scope} {ccd : Value} {cl : List (PySem.Str × Addr)}
    {x : PySem.Str} {v : Value} {Q : Unit → Shared → Prop} {c : Addr} {o : Obj} {v₀ : Option Value} {all news : List (Addr × Obj)}
    (F : Fr h₀ L s.heap m) (N : News h₀ L s.heap all) (hm : (c, o) ∈ all) (hs : ∀ p ∈ news, p ∈ all) (hc : cl.lookup x = some c) (hd : o.data = .cell v₀)
    (hn : ∀ p ∈ news, notCell p.2 = true)
    (h : ∀ h' o', Fr h₀ L h' m → News h₀ L h' ((c, o') :: news) → o'.data = .cell (some v) → Q () { s with heap := h' })
    (hk : cs.kind = .function) (hx : (envX cn cs L a ccd cl).kindOf x = some .cell) : wpAny M A (storeName (envX cn cs L a ccd cl) x v) Q E s := by
  have hmem := N (c, o) hm
  refine wpAny_storeName_cell hk hx hc ⟨o, hmem.1, hd⟩ fun h' hv hs' => ?_
  obtain ⟨o', ho', hd'⟩ := hv
  refine h h' o' ⟨F.ns.sameBut hs' (Ne.symm hmem.2.1), fun b ob e => (hs'.2 b (fun q => ?_)).trans (F.keep b ob e), F.above⟩ (fun p hp => ?_) hd'
  · rw [q, hmem.2.2] at e; cases e
  · rcases List.mem_cons.mp hp with rfl | hp
    · exact ⟨ho', hmem.2⟩
    · have z := N p (hs p hp)
      refine ⟨(hs'.2 p.1 fun q => ?_).trans z.1, z.2⟩
      have w := hn p hp
      have : p.2 = o := by
        have z1 := z.1
        rw [q, hmem.1] at z1
        exact (Option.some.inj z1).symm
      rw [this] at w
      unfold notCell at w
      rw [hd] at w
      cases w
/-- the texts of the law -/
noncomputable def pairS (a b : Int) : PySem.Str := textN a ++ PySem.Str.ofString "/" ++ textN b
noncomputable def textS (a b c d e f : Int) : PySem.Str := Txt.join (PySem.Str.ofString "'") [pairS a b, pairS c d, pairS e f]
theorem add_one (a : Int) : (textN a).length + (PySem.Str.ofString "/").length ≤ sizeLine := by
  have h := text_len a
  have h2 : (PySem.Str.ofString "/").length = 1 := by decide +kernel
  rw [PySem.sizeLine_eq]; omega
theorem one_len (a : Int) : (textN a ++ PySem.Str.ofString "/").length ≤ 12 := by
  have h2 : (PySem.Str.ofString "/").length ≤ 1 := by decide +kernel
  exact sz_app (text_len a) h2
theorem add_two (a b : Int) : (textN a ++ PySem.Str.ofString "/").length + (textN b).length ≤ sizeLine := by
  have h := one_len a
  have h2 := text_len b
  rw [PySem.sizeLine_eq]; omega
theorem pair_len (a b : Int) : (pairS a b).length ≤ 23 := sz_app (one_len a) (text_len b)
theorem pair_list (a b : Int) : (pairS a b).cps.toList = (textN a).cps.toList ++ [47] ++ (textN b).cps.toList := by
  unfold pairS
  rw [app_list, app_list, q_sl]
theorem text_six (a b c d e f : Int) : (textS a b c d e f).cps.toList = txL a b c d e f := by
  unfold textS txL
  show (List.foldl (fun acc p => acc ++ (PySem.Str.ofString "'").cps ++ p.cps) (pairS a b).cps [pairS c d, pairS e f]).toList = _
  simp only [List.foldl_cons, List.foldl_nil, Array.toList_append, q_ap, pair_list]
theorem txt_len (a b c d e f : Int) : (textS a b c d e f).length ≤ 71 := by
  have e1 : (textS a b c d e f).length = (textS a b c d e f).cps.toList.length := rfl
  have t : ∀ x, (textN x).cps.toList.length ≤ 11 := text_len
  have h1 := t a; have h2 := t b; have h3 := t c; have h4 := t d; have h5 := t e; have h6 := t f
  rw [e1, text_six]
  unfold txL
  simp only [List.length_append, List.length_cons, List.length_nil]
  omega
theorem text_known (x : Int) : ∀ c ∈ (textN x).cps.toList, b1F c = false → known c = true := by
  intro c hc hb
  have sg : ∀ c ∈ signs, known c = true := by decide +kernel
  have hk := chk_at x
  unfold chkK at hk
  simp only [Bool.and_eq_true] at hk
  rw [text_list] at hc
  simp only [List.mem_append, List.mem_singleton] at hc
  rcases hc with (((hc | hc) | hc) | rfl) | hc
  · exact sg c (run_in (first_bd x) (fun c hc => List.mem_of_mem_take hc) c hc)
  · have := List.all_eq_true.mp hk.1.1.2 c hc
    rw [hb] at this; simpa using this
  · exact sg c (run_in (first_bd x) (fun c hc => List.mem_of_mem_drop hc) c hc)
  · exact sg 47 (by decide)
  · exact sg c (run_in (second_bd x) (fun c hc => hc) c hc)
theorem six_known (a b c d e f : Int) : ∀ x ∈ txL a b c d e f, b1F x = false → known x = true := by
  intro x hx hb
  have k39 : known 39 = true := by decide +kernel
  have k47 : known 47 = true := by decide +kernel
  unfold txL at hx
  simp only [List.mem_append, List.mem_singleton] at hx
  rcases hx with (((((hx | rfl) | hx) | rfl) | ((hx | rfl) | hx)) | rfl) | ((hx | rfl) | hx)
  · exact text_known a x hx hb
  · exact k47
  · exact text_known b x hx hb
  · exact k39
  · exact text_known c x hx hb
  · exact k47
  · exact text_known d x hx hb
  · exact k39
  · exact text_known e x hx hb
  · exact k47
  · exact text_known f x hx hb
theorem mapC_len {c : Nat} : (mapC c).length ≤ 3 := by
  have h : ∀ e ∈ mapT, e.2.length ≤ 3 := by decide +kernel
  unfold mapC
  cases e : mapT.find? fun e => e.1 == c with
  | none => exact Nat.zero_le _
  | some p => exact h p (List.mem_of_find?_eq_some e)
noncomputable def prepS (P : Params) (a b c d e f : Int) : PySem.Str := Txt.join (PySem.Str.ofString "") (((textS a b c d e f).cps.toList.filter fun c => !b1F c).map (mapF P))
theorem prep_small (P : Params) (a b c d e f : Int) : ∀ y ∈ ((textS a b c d e f).cps.toList.filter fun c => !b1F c).map (mapF P), y.length ≤ 200 := by
  intro y hy
  obtain ⟨x, hx, rfl⟩ := List.mem_map.mp hy
  rw [List.mem_filter, text_six] at hx
  have hk := six_known a b c d e f x hx.1 (by simpa using hx.2)
  have e1 : (mapF P x).length = (mapF P x).cps.toList.length := rfl
  rw [e1, map_known P hk]
  exact Nat.le_trans mapC_len (by decide)
theorem prep_many (P : Params) (a b c d e f : Int) : (((textS a b c d e f).cps.toList.filter fun c => !b1F c).map (mapF P)).length ≤ 1000 := by
  rw [List.length_map]
  have h := txt_len a b c d e f
  have h2 := List.length_filter_le (fun c => !b1F c) (textS a b c d e f).cps.toList
  have e1 : (textS a b c d e f).length = (textS a b c d e f).cps.toList.length := rfl
  omega
theorem catS_map (P : Params) (l : List Nat) : catS (l.map (mapF P)) = l.flatMap fun c => (mapF P c).cps.toList := by
  unfold catS; rw [List.flatMap_map]
theorem prep_list (P : Params) (a b c d e f : Int) : (prepS P a b c d e f).cps.toList = pre6 a b c d e f := by
  unfold prepS
  rw [str_join _ empty_str, catS_map, text_six, ← prep_six P]; rfl
theorem prepS_len (P : Params) (a b c d e f : Int) : (prepS P a b c d e f).length ≤ 200 := by
  have e1 : (prepS P a b c d e f).length = (prepS P a b c d e f).cps.toList.length := rfl
  rw [e1, prep_list]
  exact Nat.le_trans (pre_len _ _ _ _ _ _) (by decide)
noncomputable def bareS (P : Params) (a b c d e f : Int) : PySem.Str := stripF (prepS P a b c d e f)
theorem bareS_len (P : Params) (a b c d e f : Int) : (bareS P a b c d e f).length ≤ 89 := bare_len (prep_list P a b c d e f)
noncomputable def unitsS (P : Params) (a b c d e f : Int) : List (Nat × List Nat) := unitsF (bareS P a b c d e f).cps.toList 0 false
theorem unitsS_len (P : Params) (a b c d e f : Int) : (unitsS P a b c d e f).length ≤ 89 := by
  have h := unitsF_len (bareS P a b c d e f).cps.toList 0 false
  have h2 := bareS_len P a b c d e f
  have e1 : (bareS P a b c d e f).length = (bareS P a b c d e f).cps.toList.length := rfl
  simp only [Bool.false_eq_true, if_false] at h
  unfold unitsS
  omega
noncomputable def keptS (P : Params) (a b c d e f : Int) : PySem.Str := Txt.join (PySem.Str.ofString "") (keptU (unitsS P a b c d e f))
theorem kept_one {us : List (Nat × List Nat)} : ∀ y ∈ keptU us, y.length ≤ 200 := by
  intro y hy
  unfold keptU at hy
  obtain ⟨u, hu, rfl⟩ := List.mem_map.mp hy
  rw [List.mem_filter] at hu
  have e : (⟨u.2.toArray⟩ : PySem.Str).length = u.2.length := by show u.2.toArray.size = _; simp
  have := hu.2
  simp only [beq_iff_eq] at this
  rw [e, this]; decide
theorem kept_many (P : Params) (a b c d e f : Int) : (keptU (unitsS P a b c d e f)).length ≤ 1000 := by
  unfold keptU
  rw [List.length_map]
  exact Nat.le_trans (List.length_filter_le _ _) (Nat.le_trans (unitsS_len P a b c d e f) (by decide))
theorem kept_list (P : Params) (a b c d e f : Int) : (keptS P a b c d e f).cps.toList = wordL a b ++ [39] ++ wordL c d ++ [39] ++ wordL e f := by
  unfold keptS
  rw [str_join _ empty_str]
  have h : catS (keptU (unitsS P a b c d e f)) = ((unitsS P a b c d e f).filter fun u => u.2.length == 1).flatMap (·.2) := by
    unfold catS keptU
    rw [List.flatMap_map]
  rw [h]
  unfold unitsS
  rw [keep_units]
  exact strip_six (prep_list P a b c d e f)
theorem keptS_len (P : Params) (a b c d e f : Int) : (keptS P a b c d e f).length ≤ 200 := kept_len (kept_list P a b c d e f)
noncomputable abbrev wordS (a b : Int) : PySem.Str := ⟨(wordL a b).toArray⟩
theorem kept_split (P : Params) (a b c d e f : Int) : Txt.splitMax (keptS P a b c d e f) (PySem.Str.ofString "'") 2 = [wordS a b, wordS c d, wordS e f] := split_six (kept_list P a b c d e f)
theorem wordS_len (a b : Int) : (wordS a b).length ≤ 200 := by
  have h := word_len a b
  have e : (wordS a b).length = (wordL a b).length := by show (wordL a b).toArray.size = _; simp
  omega
end Mine
end
section
open PySem PySem.W PyProof.Rows PySem.Spec PySem.Calls Lean Meta Elab Tactic
open PyProof.Rows.LCg PyProof.Rows.LCt
set_option Elab.async false
set_option maxRecDepth 100000
set_option maxHeartbeats 2000000
namespace Mine
section
variable {prog : Program} {w : World} {A : Around} {E : Value → Shared → Prop} {s : Shared} {h₀ : Heap} {L D R : Addr} {m : PySem.Str → Option Value} {news : List (Addr × Obj)} {value slice : PySem.Expr}
theorem led_list {vs : Array Value} {n : Nat} {i : Int} {u : Tok} {x : Value} {Q : Value → Shared → Prop} (N : News h₀ L s.heap news) (hm : (D, ({ cls := .type "list", data := .seq vs n } : Obj)) ∈ news) (h0 : 0 ≤ i) (hz : i < 100) (hj : vs.toList[i.toNat]? = some x) (h : Q x s)
    (hs : subscripted slice false (.ref D) (.int i u) = operate [.ref D, .int i u] (getItem (.ref D) (.int i u))) :
    wpAny (model prog w) A (subscriptTail value slice (.ref D) (.int i u)) Q E s := by
  obtain ⟨k, rfl⟩ := Int.eq_ofNat_of_zero_le h0
  have hl : s.heap.IsList D vs := ⟨_, (N _ hm).1, rfl, _, rfl⟩
  have hlt : k < vs.size := by have := (List.getElem?_eq_some_iff.mp hj).1; simpa using this
  exact tail_any hl.typeIs slot_list_getitem.lookup (wpAny_getItem_list hl (by omega) (by omega) (x := x) (by simpa using hj) h) hs
theorem led_tup {vs : Array Value} {n : Nat} {i : Int} {u : Tok} {x : Value} {Q : Value → Shared → Prop} (N : News h₀ L s.heap news) (hm : (D, ({ cls := .type "tuple", data := .seq vs n } : Obj)) ∈ news) (h0 : 0 ≤ i) (hz : i < 100) (hj : vs.toList[i.toNat]? = some x) (h : Q x s)
    (hs : subscripted slice false (.ref D) (.int i u) = operate [.ref D, .int i u] (getItem (.ref D) (.int i u))) :
    wpAny (model prog w) A (subscriptTail value slice (.ref D) (.int i u)) Q E s := by
  obtain ⟨k, rfl⟩ := Int.eq_ofNat_of_zero_le h0
  have hlt : k < vs.size := by have := (List.getElem?_eq_some_iff.mp hj).1; simpa using this
  have ht : IsTup s.heap D vs.toList.toArray := ⟨_, (N _ hm).1, rfl, _, rfl⟩
  refine item_tupleT (j := k) (x := x) ht (by omega) (by omega) ?_ (by simpa using hj) h hs
  unfold seqIndex?
  simp only [Array.length_toList]
  split <;> rename_i q
  · omega
  · split <;> rename_i q'
    · simp
    · exfalso; revert q'; simp; omega
theorem join_six {a b c d e f : Int} {t t1 t2 t3 : Tok} {Q : Value → Shared → Prop} (N : News h₀ L s.heap news)
    (hm : (R, lst [.str (textN a ++ PySem.Str.ofString "/" ++ textN b) t1, .str (textN c ++ PySem.Str.ofString "/" ++ textN d) t2, .str (textN e ++ PySem.Str.ofString "/" ++ textN f) t3]) ∈ news)
    (h : ∀ t' k, Q (.str (textS a b c d e f) t') { s with toks := k }) : wpAny (model prog w) A (call (.builtin "str.join") [.str (PySem.Str.ofString "'") t, .ref R]) Q E s := by
  refine own_join (res := [pairS a b, pairS c d, pairS e f]) N hm (.cons _ _ (.cons _ _ (.cons _ _ .nil))) (by decide +kernel) ?_ (by show 3 ≤ 1000; decide) h
  intro y hy
  simp only [List.mem_cons, List.not_mem_nil, or_false] at hy
  rcases hy with rfl | rfl | rfl <;> exact Nat.le_trans (pair_len _ _) (by decide)
theorem join_prep {P : Params} {a b c d e f : Int} {t : Tok} {ys : List Value} {Q : Value → Shared → Prop} (N : News h₀ L s.heap news) (hm : (R, lst ys) ∈ news)
    (hi : StrsAre ys (((textS a b c d e f).cps.toList.filter fun c => !b1F c).map (mapF P)))
    (h : ∀ t' k, Q (.str (prepS P a b c d e f) t') { s with toks := k }) : wpAny (model prog w) A (call (.builtin "str.join") [.str (PySem.Str.ofString "") t, .ref R]) Q E s :=
  own_join N hm hi len0 (prep_small P a b c d e f) (prep_many P a b c d e f) h
theorem join_kept {P : Params} {a b c d e f : Int} {t : Tok} {ys : List Value} {Q : Value → Shared → Prop} (N : News h₀ L s.heap news) (hm : (R, lst ys) ∈ news)
    (hi : StrsAre ys (keptU (unitsF (stripF (prepS P a b c d e f)).cps.toList 0 false)))
    (h : ∀ t' k, Q (.str (keptS P a b c d e f) t') { s with toks := k }) : wpAny (model prog w) A (call (.builtin "str.join") [.str (PySem.Str.ofString "") t, .ref R]) Q E s :=
  own_join N hm hi len0 kept_one (kept_many P a b c d e f) h
end
theorem own_cell7 {M : Model} {A : Around} {E : Value → Shared → Prop} {s : Shared} {h₀ : Heap} {L a : Addr} {m : PySem.Str → Option Value} {cn : PySem.Str} {cs : Scope} {ccd : Value} {cl : List (PySem.Str × Addr)}
    {x : PySem.Str} {v : Value} {Q : Unit → Shared → Prop} {c : Addr} {o : Obj} {v₀ : Option Value} {e0 e1 e2 e3 e4 e5 e6 e7 : Addr × Obj} {tail : List (Addr × Obj)}
    (F : Fr h₀ L s.heap m) (N : News h₀ L s.heap (e0 :: e1 :: e2 :: e3 :: e4 :: e5 :: e6 :: e7 :: (c, o) :: tail)) (hc : cl.lookup x = some c) (hd : o.data = .cell v₀)
    (hn : ∀ p ∈ [e0, e1, e2, e3, e4, e5, e6], notCell p.2 = true)
    (h : ∀ h' o', Fr h₀ L h' m → News h₀ L h' [(c, o'), e0, e1, e2, e3, e4, e5, e6] → o'.data = .cell (some v) → Q () { s with heap := h' })
    (hk : cs.kind = .function) (hx : (envX cn cs L a ccd cl).kindOf x = some .cell) : wpAny M A (storeName (envX cn cs L a ccd cl) x v) Q E s :=
  own_cell F N (by simp) (fun p hp => by
    simp only [List.mem_cons, List.not_mem_nil, or_false] at hp ⊢
    rcases hp with h | h | h | h | h | h | h <;> simp [h]) hc hd hn h hk hx
theorem not_t {b : Bool} (h : b = true) : (!b) = false := by rw [h]; rfl
theorem not_f {b : Bool} (h : b = false) : (!b) = true := by rw [h]; rfl
theorem newsDrop {h₀ h : Heap} {L : Addr} {x : Addr × Obj} {l : List (Addr × Obj)} (N : News h₀ L h (x :: l)) : News h₀ L h l := fun p hp => N p (.tail _ hp)
theorem newsDrop2 {h₀ h : Heap} {L : Addr} {x y : Addr × Obj} {l : List (Addr × Obj)} (N : News h₀ L h (x :: y :: l)) : News h₀ L h l := fun p hp => N p (.tail _ (.tail _ hp))
theorem units_sz (P : Params) (a b c d e f : Int) : (unitsF (stripF (prepS P a b c d e f)).cps.toList 0 false).length ≤ sizeLine := Nat.le_trans (unitsS_len P a b c d e f) (by decide)
theorem len_unit {prog : Program} {w : World} {A : Around} {E : Value → Shared → Prop} {s : Shared} {u : List Nat} {t : Tok} {Q : Value → Shared → Prop} (hu : u.length ≤ 2) (h : Q (.int (u.length : Nat) (s.toks + 1)) { s with toks := s.toks + 1 + 1 }) : wpAny (model prog w) A (call (.builtin "len") [.str ⟨u.toArray⟩ t]) Q E s := by
  have e : (⟨u.toArray⟩ : PySem.Str).length = u.length := by show u.toArray.size = _; simp
  exact len_str (by rw [e]; omega) (by rw [e]; exact h)
theorem one_of {n : Nat} (h : (n : Int) = 1) : n = 1 := by omega
theorem not_one {n : Nat} (h : ¬ (n : Int) = 1) : n ≠ 1 := by omega
theorem bits_first (x : Int) : Builtin.Int.intBits (firstN x) ≤ 64 := by have h := first_bd x; exact PySem.intBits_le_64 (by omega) (by omega)
theorem bits_second (x : Int) : Builtin.Int.intBits (secondN x) ≤ 64 := by have h := second_bd x; exact PySem.intBits_le_64 (by omega) (by omega)
noncomputable def chkB (a b c d : Int) : Bool := decide (-100 ≤ a + c - a * b * c) && decide (a + c - a * b * c ≤ 100) && decide (-100 ≤ a - a * b) && decide (a - a * b ≤ 100) && decide (-100 ≤ a * b + a * d + c * d - 1 - a * b * c * d) && decide (a * b + a * d + c * d - 1 - a * b * c * d ≤ 100)
theorem chkB_all {a b c d : Int} (ha : -2 ≤ a ∧ a ≤ 2) (hb : -2 ≤ b ∧ b ≤ 2) (hc : -2 ≤ c ∧ c ≤ 2) (hd : -2 ≤ d ∧ d ≤ 2) : chkB a b c d = true := by
  have key : ∀ a ∈ [(-2 : Int), -1, 0, 1, 2], ∀ b ∈ [(-2 : Int), -1, 0, 1, 2], ∀ c ∈ [(-2 : Int), -1, 0, 1, 2], ∀ d ∈ [(-2 : Int), -1, 0, 1, 2], chkB a b c d = true := by decide +kernel
  have m : ∀ {x : Int}, (-2 ≤ x ∧ x ≤ 2) → x ∈ [(-2 : Int), -1, 0, 1, 2] := fun h => by
    rcases five h with rfl | rfl | rfl | rfl | rfl <;> simp
  exact key a (m ha) b (m hb) c (m hc) d (m hd)
theorem bnd_all (x y : Int) : (-100 ≤ firstN x + firstN y - firstN x * secondN x * firstN y ∧ firstN x + firstN y - firstN x * secondN x * firstN y ≤ 100) ∧ (-100 ≤ firstN x - firstN x * secondN x ∧ firstN x - firstN x * secondN x ≤ 100) ∧
    (-100 ≤ firstN x * secondN x + firstN x * secondN y + firstN y * secondN y - 1 - firstN x * secondN x * firstN y * secondN y ∧ firstN x * secondN x + firstN x * secondN y + firstN y * secondN y - 1 - firstN x * secondN x * firstN y * secondN y ≤ 100) := by
  have h := chkB_all (first_bd x) (second_bd x) (first_bd y) (second_bd y)
  unfold chkB at h
  simp only [Bool.and_eq_true, decide_eq_true_eq] at h
  exact ⟨⟨h.1.1.1.1.1, h.1.1.1.1.2⟩, ⟨h.1.1.1.2, h.1.1.2⟩, h.1.2, h.2⟩
theorem bits_q (x y : Int) : Builtin.Int.intBits (firstN x + firstN y - firstN x * secondN x * firstN y) ≤ 64 := PySem.intBits_le_64 (Int.le_trans (by decide) (bnd_all x y).1.1) (Int.lt_of_le_of_lt (bnd_all x y).1.2 (by decide))
theorem bits_r (x : Int) : Builtin.Int.intBits (firstN x - firstN x * secondN x) ≤ 64 := PySem.intBits_le_64 (Int.le_trans (by decide) (bnd_all x 0).2.1.1) (Int.lt_of_le_of_lt (bnd_all x 0).2.1.2 (by decide))
theorem bits_p (x y : Int) : Builtin.Int.intBits (firstN x * secondN x + firstN x * secondN y + firstN y * secondN y - 1 - firstN x * secondN x * firstN y * secondN y) ≤ 64 := PySem.intBits_le_64 (Int.le_trans (by decide) (bnd_all x y).2.2.1) (Int.lt_of_le_of_lt (bnd_all x y).2.2.2 (by decide))
theorem clG_use {w : World} {mean : ExcName → Option Value} {mg mb : PySem.Str → Option Value} {f : Addr} {dd : Nat} {vs : List Value} {Pre : List (Addr × Obj) → Prop} {Out : List (Addr × Obj) → List (Addr × Obj) → Value → Prop}
    {dp un : Nat} {gd : Option (List Code)} {cn : PySem.Str} {cs : Scope} {L a : Addr} {ccd : Value} {cl : List (PySem.Str × Addr)} {outer : List Env} {A₀ : Around} {base h₀ : Heap} {m : PySem.Str → Option Value} {news : List (Addr × Obj)} {s : Shared}
    {Q E : Value → Shared → Prop}
    (B : Below A₀ base outer h₀) (F : Fr h₀ L s.heap m) (X : (KF w.params).In h₀) (N : News h₀ L s.heap news) (T : Top QV LO mean mg mb h₀) (hk : cs.kind = .function) (hd : dp + dd < recursionLimit) (hu : un + 8 * dd < cLine)
    (C : ClG w mean mg mb f dd vs Pre Out) (hp : Pre news)
    (ret : ∀ r tl h' tk' gs', Fr h₀ L h' m → News h₀ L h' (tl ++ news) → (∀ q ∈ news, ∀ p ∈ tl, q.1 ≠ p.1) → Out news tl r → (AllBare s.gens → AllBare gs') → Q r { s with heap := h', toks := tk', gens := gs' }) :
    wpAny (model PySem.Challenge.rw_wf0099_01.prog w) (ktrTop dp un gd cn cs L a ccd cl outer) (call (.ref f) vs) Q E s := C _ _ _ _ _ _ _ _ _ _ _ _ _ _ _ _ _ _ B F X N T hk hd hu hp ret
theorem gc_use {w : World} {A : Around} {E : Value → Shared → Prop} {h₀ : Heap} {L : Addr} {m : PySem.Str → Option Value} {mean : ExcName → Option Value} {mg mb : PySem.Str → Option Value} {env : Env}
    {s : Shared} {elt iter c : PySem.Expr} {a b : PySem.Str} {pa pb tp : Pos} {kk : Nat} {scope : Scope} {cl : List (PySem.Str × Addr)} {pos : Pos} {Q : Value → Shared → Prop}
    (_T : Top QV LO mean mg mb h₀) (_F : Fr h₀ L s.heap m)
    (hclos : closureFor scope env = pure cl) (hcell : ∀ y ∈ scope.names, y.2 ≠ .cell) (hkind : scope.kind = .function)
    (hnames : ∀ y ∈ scope.names, y.2 = .local → scope.names.lookup y.1 = some .local) (hxa : scope.names.lookup a = some .local) (hxb : scope.names.lookup b = some .local) (hab : ¬ a = b)
    (h : wpAny (model PySem.Challenge.rw_wf0099_01.prog w) A (eval iter env) (GcSrc w A mean mg mb h₀ L m env c elt a b scope cl Q) E s)
    (hs : ∀ x, foldedSetIterable iter env x = pure x := by intro _; rfl) :
    wpAny (model PySem.Challenge.rw_wf0099_01.prog w) A (eval (.ListComp elt [⟨.Tuple [.Name a pa, .Name b pb] kk tp, iter, [c], 0⟩] scope pos) env) Q E s := gc_ListComp hclos hcell hkind hnames hxa hxb hab h hs
end Mine
end
section
open PySem PySem.W PyProof.Rows PySem.Spec PySem.Calls Lean Meta Elab Tactic
open PyProof.Rows.LCg PyProof.Rows.LCt
set_option Elab.async false
set_option maxRecDepth 100000
set_option maxHeartbeats 2000000
namespace Mine
/-- the numbers of one word, as the law writes them -/
noncomputable abbrev pR (x y : Int) : Int := firstN x * secondN x + firstN x * secondN y + firstN y * secondN y - 1 - firstN x * secondN x * firstN y * secondN y
noncomputable abbrev qR (x y : Int) : Int := firstN x + firstN y - firstN x * secondN x * firstN y
noncomputable abbrev rR (x : Int) : Int := firstN x - firstN x * secondN x
noncomputable abbrev bR (x y place s : Int) : Int := place - rR x * s - (gainN x + gainN y)
noncomputable def endP (x y place s : Int) : P4 := (place, place + pR x y * s, place + pR x y * s - qR x y * s, place - qR x y * s)
theorem turn_arith (place s r P Q G : Int) : addQ G (place - r * s - G + s * r, place - r * s - G + s * r + s * P, place - r * s - G + s * r + s * P - s * Q, place - r * s - G + s * r - s * Q) = (place, place + P * s, place + P * s - Q * s, place - Q * s) := by
  unfold addQ
  rw [Int.mul_comm s r, Int.mul_comm s P, Int.mul_comm s Q]
  generalize r * s = a
  generalize P * s = b
  generalize Q * s = c
  refine Prod.ext ?_ (Prod.ext ?_ (Prod.ext ?_ ?_)) <;> dsimp only <;> omega
theorem word_turn (x y : Int) : ∃ l, Syms ⟨(wordL x y).toArray⟩ 0 l ∧ l.length ≤ 200 ∧ (∀ t ∈ l, goodT t) ∧ ∀ place s : Int, E4 (l.foldl (fun p t => stepP t p) (bR x y place s, bR x y place s, bR x y place s - s, bR x y place s - s)) (endP x y place s) := by
  obtain ⟨l, h1, h2, h3, h4⟩ := word_ends x y
  refine ⟨l, h1, h2, h3, fun place s => ?_⟩
  have h := h4 (bR x y place s) s
  have e : addQ (gainN x + gainN y) (bR x y place s + s * rW (firstN x) (secondN x), bR x y place s + s * rW (firstN x) (secondN x) + s * pW (firstN x) (secondN x) (firstN y) (secondN y), bR x y place s + s * rW (firstN x) (secondN x) + s * pW (firstN x) (secondN x) (firstN y) (secondN y) - s * qW (firstN x) (secondN x) (firstN y), bR x y place s + s * rW (firstN x) (secondN x) - s * qW (firstN x) (secondN x) (firstN y)) = endP x y place s := by
    exact turn_arith place s (rR x) (pR x y) (qR x y) (gainN x + gainN y)
  rw [e] at h
  exact h
end Mine
end
section
open PySem PySem.W PyProof.Rows PySem.Spec PySem.Calls Lean Meta Elab Tactic
set_option Elab.async false
set_option maxRecDepth 100000
set_option maxHeartbeats 1000000
namespace Mine
open SeqAt
noncomputable def selfF (x : UInt64) : Bool := feq x x
theorem same_flt {M : Model} {A : Around} {E : Value → Shared → Prop} {s : Shared} {x y : UInt64} {t u : Tok} {Q : Bool → Shared → Prop} (hb : NoneBooked s.heap) (hq : ∀ b, Q b s) : wpAny M A (isSame (.float x (t + 1)) (.float y (u + 1))) Q E s := by
  show wpAny M A (isSame.created (x == y && !Float64.isNaN x) (t + 1) (u + 1)) Q E s
  unfold isSame.created
  refine wpAny_ite ?_
  split
  · rename_i h; simp at h
  refine wpAny_ite ?_
  split
  · exact wpAny_pure (hq _)
  refine wpAny_ite ?_
  split
  · exact wpAny_pure (hq _)
  refine wpAny_bind (wpAny_sharingNotTold_none hb ?_)
  first | rw [if_neg Bool.false_ne_true] | simp only [Bool.false_eq_true, if_false]
  refine wpAny_bind (wpAny_sharingNotTold_none hb ?_)
  first | rw [if_neg Bool.false_ne_true] | simp only [Bool.false_eq_true, if_false]
  exact wpAny_bind (wpAny_rule (wpAny_bind (wpAny_askSetting (wpAny_pure (hq _)))))
section
variable {A : Around} {s : Shared}
theorem rc_flt {x : UInt64} {t u : Tok} (hx : selfF x = true) : RcAt A s (.float x t) (.float x u) true := fun prog w E Q h =>
  richCompare_gives (AutoFloatOps.typeIs_float s x t) (AutoFloatOps.typeIs_float s x u) F.slot_float_eq F.entry_float_eq (F.args_float_eq_2 _ _) (AutoFloatG5.float___eq___float_float_0 x t x u) (fun x => nomatch x) (by
    show Q (.bool (feq x x)) s
    rw [show feq x x = true from hx]; exact h)
theorem eq_flt {x : UInt64} {t u : Tok} (hx : selfF x = true) (hb : NoneBooked s.heap) : EqAt A s (.float x (t + 1)) (.float x (u + 1)) true := fun prog w E Q h => by
  unfold eqBool
  refine wpAny_holding ?_
  refine wpAny_ite_split (fun _ => ?_) (fun _ => ?_)
  · exact wpAny_bind (wpAny_rule (wpAny_pure h))
  · refine wpAny_bind (same_flt hb fun b => ?_)
    cases b with
    | true => exact wpAny_pure h
    | false => exact wpAny_bind (rc_flt hx prog w E _ (wpAny_truthy_bool h))

theorem isTup_col {h : Heap} {a : Addr} {c : UInt64 × UInt64 × UInt64} {t1 t2 t3 : Tok} (e : h.get? a = some (colO c t1 t2 t3)) : h.IsTuple a #[.float c.1 (t1 + 1), .float c.2.1 (t2 + 1), .float c.2.2 (t3 + 1)] := ⟨_, e, rfl, _, rfl⟩
theorem items_col {c : UInt64 × UInt64 × UInt64} {t1 t2 t3 u1 u2 u3 : Tok} (hs : selfC c = true) (nb : NoneBooked s.heap) : ∀ j (_ : j < (#[Value.float c.1 (t1 + 1), .float c.2.1 (t2 + 1), .float c.2.2 (t3 + 1)] : Array Value).size) (_ : j < (#[Value.float c.1 (u1 + 1), .float c.2.1 (u2 + 1), .float c.2.2 (u3 + 1)] : Array Value).size),
    EqAt A.in1 s (#[Value.float c.1 (t1 + 1), .float c.2.1 (t2 + 1), .float c.2.2 (t3 + 1)] : Array Value)[j] (#[Value.float c.1 (u1 + 1), .float c.2.1 (u2 + 1), .float c.2.2 (u3 + 1)] : Array Value)[j] ((fun _ => true) j) := by
  unfold selfC at hs
  simp only [Bool.and_eq_true] at hs
  intro j h1 h2
  match j, h1, h2 with
  | 0, _, _ => exact eq_flt hs.1.1 nb
  | 1, _, _ => exact eq_flt hs.1.2 nb
  | 2, _, _ => exact eq_flt hs.2 nb
  | n + 3, h, _ => exact absurd h (by simp)
theorem rc_col {a b : Addr} {c : UInt64 × UInt64 × UInt64} {t1 t2 t3 u1 u2 u3 : Tok} (ha : s.heap.get? a = some (colO c t1 t2 t3)) (hb : s.heap.get? b = some (colO c u1 u2 u3)) (hs : selfC c = true) (nb : NoneBooked s.heap) (hu : A.units < cLine) : RcAt A s (.ref a) (.ref b) true := by
  have := RcAt.tuples (e := fun _ => true) (isTup_col ha) (isTup_col hb) hu (items_col hs nb)
  exact this
theorem rcne_col {a b : Addr} {c : UInt64 × UInt64 × UInt64} {t1 t2 t3 u1 u2 u3 : Tok} (ha : s.heap.get? a = some (colO c t1 t2 t3)) (hb : s.heap.get? b = some (colO c u1 u2 u3)) (hs : selfC c = true) (nb : NoneBooked s.heap) (hu : A.units < cLine) : RcNeAt A s (.ref a) (.ref b) false := by
  have := RcNeAt.tuples (e := fun _ => true) (isTup_col ha) (isTup_col hb) hu (items_col hs nb)
  exact this
theorem eq_col {a b : Addr} {c : UInt64 × UInt64 × UInt64} {t1 t2 t3 u1 u2 u3 : Tok} (ha : s.heap.get? a = some (colO c t1 t2 t3)) (hb : s.heap.get? b = some (colO c u1 u2 u3)) (hs : selfC c = true) (nb : NoneBooked s.heap) (hu : A.units < cLine) : EqAt A s (.ref a) (.ref b) true := by
  by_cases e : a = b
  · subst e; exact EqAt.same _
  · exact EqAt.of_refs e (rc_col ha hb hs nb hu)
end
section
variable {prog : Program} {w : World} {A : Around} {E : Value → Shared → Prop} {s : Shared}
/-- two colours that are one colour: not unlike -/
theorem ne_cols {a b : Addr} {c : UInt64 × UInt64 × UInt64} {t1 t2 t3 u1 u2 u3 : Tok} {Q : Value → Shared → Prop} (ha : s.heap.get? a = some (colO c t1 t2 t3)) (hb : s.heap.get? b = some (colO c u1 u2 u3)) (hs : selfC c = true) (nb : NoneBooked s.heap) (hu : A.units < cLine) (h : Q (.bool false) s) :
    wpAny (model prog w) A (compareOp .NotEq (.ref a) (.ref b)) Q E s := rcne_col ha hb hs nb hu prog w E Q h
/-- two lists of four colours, alike -/
theorem eq_four {a b a1 a2 a3 a4 b1 b2 b3 b4 : Addr} {n k : Nat} {c1 c2 c3 c4 : UInt64 × UInt64 × UInt64} {p1 p2 p3 p4 q1 q2 q3 q4 : Tok × Tok × Tok} {Q : Value → Shared → Prop}
    (ha : s.heap.get? a = some (W.listOf #[.ref a1, .ref a2, .ref a3, .ref a4] n)) (hb : s.heap.get? b = some (W.listOf #[.ref b1, .ref b2, .ref b3, .ref b4] k))
    (x1 : s.heap.get? a1 = some (colO c1 p1.1 p1.2.1 p1.2.2)) (x2 : s.heap.get? a2 = some (colO c2 p2.1 p2.2.1 p2.2.2)) (x3 : s.heap.get? a3 = some (colO c3 p3.1 p3.2.1 p3.2.2)) (x4 : s.heap.get? a4 = some (colO c4 p4.1 p4.2.1 p4.2.2))
    (y1 : s.heap.get? b1 = some (colO c1 q1.1 q1.2.1 q1.2.2)) (y2 : s.heap.get? b2 = some (colO c2 q2.1 q2.2.1 q2.2.2)) (y3 : s.heap.get? b3 = some (colO c3 q3.1 q3.2.1 q3.2.2)) (y4 : s.heap.get? b4 = some (colO c4 q4.1 q4.2.1 q4.2.2))
    (s1 : selfC c1 = true) (s2 : selfC c2 = true) (s3 : selfC c3 = true) (s4 : selfC c4 = true) (nb : NoneBooked s.heap) (hu : A.units + 1 < cLine) (h : Q (.bool true) s) :
    wpAny (model prog w) A (compareOp .Eq (.ref a) (.ref b)) Q E s := by
  have hl : s.heap.IsList a #[.ref a1, .ref a2, .ref a3, .ref a4] := ⟨_, ha, rfl, _, rfl⟩
  have hl' : s.heap.IsList b #[.ref b1, .ref b2, .ref b3, .ref b4] := ⟨_, hb, rfl, _, rfl⟩
  have hu' : A.in1.units < cLine := hu
  have := RcAt.lists (A := A) (e := fun _ => true) hl hl' rfl (Nat.lt_of_succ_lt hu) (fun j h1 h2 => by
    match j, h1, h2 with
    | 0, _, _ => exact eq_col x1 y1 s1 nb hu'
    | 1, _, _ => exact eq_col x2 y2 s2 nb hu'
    | 2, _, _ => exact eq_col x3 y3 s3 nb hu'
    | 3, _, _ => exact eq_col x4 y4 s4 nb hu'
    | n + 4, h, _ => exact absurd h (by simp))
  have r : RcAt A s (.ref a) (.ref b) true := this
  exact r prog w E Q h
end
theorem noneBooked {P : Params} {h₀ h : Heap} {L : Addr} {m : PySem.Str → Option Value} (X : (KF P).In h₀) (F : Fr h₀ L h m) (e : (KF P).lookup 2 = some (o2 P)) : NoneBooked h :=
  ⟨fun _ => none, ⟨o2 P, #[], 0, inK X F e, rfl, fun _ hm => absurd hm (by simp), fun _ => rfl⟩, rfl⟩
end Mine
end
section
open PySem PySem.W PyProof.Rows PySem.Spec PySem.Calls Lean Meta Elab Tactic
open PyProof.Rows.LCg PyProof.Rows.LCt
set_option Elab.async false
set_option maxRecDepth 100000
set_option maxHeartbeats 2000000
namespace Mine
section
variable {prog : Program} {w : World} {A : Around} {E : Value → Shared → Prop} {s : Shared} {h₀ : Heap} {L : Addr} {news : List (Addr × Obj)}
end
theorem good_true {c : ClaimW} {cl : PySem.Str → Option Addr} {mean : ExcName → Option Value} {args : List WData} {s₁ s' : Shared} {L : Addr} {m : PySem.Str → Option Value} (F : Fr s₁.heap L s'.heap m) (hb : AllBare s'.gens) (hn : ∀ cls, c.raises args cls = false)
    (hp : c.post args (.bool true) args = true) (hos : s'.os = s₁.os) : GoodWG c cl mean args s₁ (.ok (.ret (.bool true))) s' :=
  ⟨.inl ⟨.bool true, .bool true, [], rfl, hn, .bool true, hp, unshared_nil⟩, .of_keep F.keep, hos, hb⟩
theorem eqA (x y z w p s s' : Int) : (endP x y p s).2.1 = (endP z w (p + pR x y * s) s').1 := rfl
theorem mul3 (a b c : Int) : a * (b * c) = b * (c * a) := by rw [Int.mul_comm a, Int.mul_assoc]
theorem eqB (x y z w p q : Int) : (endP x y p (qR z w * q)).2.2.1 = (endP z w (p + pR x y * (qR z w * q)) (q * qR x y)).2.2.2 := by
  show p + pR x y * (qR z w * q) - qR x y * (qR z w * q) = p + pR x y * (qR z w * q) - qR z w * (q * qR x y)
  rw [mul3 (qR x y)]
theorem eq1 (x y s : Int) : (endP x y 0 s).1 = 0 := rfl
theorem eq2 (x y a b : Int) : (endP x y 0 (a * b)).2.2.2 = -(qR x y * a * b) := by
  show 0 - qR x y * (a * b) = -(qR x y * a * b)
  rw [Int.mul_assoc]; omega
theorem eq3 (x y p s : Int) : (endP x y p s).2.1 = p + pR x y * s := rfl
theorem eq4 (x y p a b : Int) : (endP x y p (a * b)).2.2.1 = p + pR x y * (a * b) - a * b * qR x y := by
  show p + pR x y * (a * b) - qR x y * (a * b) = p + pR x y * (a * b) - a * b * qR x y
  rw [Int.mul_comm (qR x y)]
end Mine
end
section
open PySem PySem.W PyProof.Rows PySem.Spec PySem.Calls Lean Meta Elab Tactic
open PyProof.Rows.LCg PyProof.Rows.LCt
set_option Elab.async false
set_option maxRecDepth 100000
set_option maxHeartbeats 1000000
namespace Mine
noncomputable def rowI (l : List Int) : List SV := (l ++ [0]).map SV.int
theorem ints_reps {N : Led} : ∀ {vs : List Value} {ns : List Int}, IntsAre vs ns → Reps N (ns.map SV.int) vs
  | _, _, .nil => .nil
  | _, _, .cons a u r => .cons (.int _ _) (ints_reps r)
theorem reps_ints {N : Led} : ∀ {vs : List Value} {ns : List Int}, Reps N (ns.map SV.int) vs → IntsAre vs ns
  | _, [], .nil => .nil
  | _, n :: ns, .cons h r => by cases h; exact .cons _ _ (reps_ints r)
noncomputable def spSyms (l : List SV) (K : SV → Prop) : Prop := ∃ z r, l = [.str z] ∧ z.length ≤ 200 ∧ Syms z 0 r ∧ r.length ≤ 200 ∧ K (.lst (rowI r))
theorem symbolsS (w mean mg mb) : CallS w mean mg mb 149 4 spSyms := by
  rintro _ K ⟨z, r, rfl, hz, hS, hl, hK⟩ vs N hr
  rcases hr with _ | ⟨r1, r2⟩
  cases r1; cases r2
  intro dp un gd cn cs a ccd cl outer A₀ base h₀ L m news s Q E B F X NN T hk hd hu hP hret
  refine symbols w mean mg mb z _ hz r hS hl dp un gd cn cs a ccd cl outer A₀ base h₀ L m news s Q E B F X NN T hk hd hu trivial ?_
  rintro _ tl h' tk' F' N' ord ⟨D, ys, rfl, rfl, hy⟩
  exact hret _ _ h' tk' F' N' ord ⟨_, hK, .lst D ys _ ys.length (.head _) (ints_reps hy)⟩
noncomputable def spDone (l : List SV) (K : SV → Prop) : Prop := ∃ r p q, l = [.lst (rowI r), lst4 p] ∧ (∀ t ∈ r, goodT t) ∧ r.length ≤ 200 ∧ E4 (r.foldl (fun p t => stepP t p) p) q ∧ K (lst4 q)
theorem svA_eq {x y : Int} (h : Em x y) : svA x = svA y := by unfold svA; rw [h.fmod_eq]
theorem lst4_eq {p q : P4} (h : E4 p q) : lst4 p = lst4 q := by
  unfold lst4; rw [svA_eq h.1, svA_eq h.2.1, svA_eq h.2.2.1, svA_eq h.2.2.2]
theorem doneS (w mean mg mb) : CallS w mean mg mb 175 8 spDone := by
  rintro _ K ⟨r, p, q, rfl, hg, hl, hE, hK⟩ vs N hr
  obtain ⟨v1, v2, rfl, r1, r2⟩ := two_any hr
  rcases r1 with _ | _ | _ | _ | _ | _ | ⟨ar, ys, _, n1, hm1, hr1⟩
  obtain ⟨Ea, b1, b2, b3, b4, n, t1, t2, t3, t4, rfl, hm⟩ := rep_ends r2
  intro dp un gd cn cs a ccd cl outer A₀ base h₀ L m news s Q E B F X NN T hk hd hu hP hret
  refine done w mean mg mb r hg (Nat.le_trans hl (by decide)) ys (reps_ints hr1) ar Ea b1 b2 b3 b4 n1 n p t1 t2 t3 t4 dp un gd cn cs a ccd cl outer A₀ base h₀ L m news s Q E B F X NN T hk hd hu (List.forall_mem_cons.mpr ⟨hP _ hm1, fun q hq => hP _ (hm q hq)⟩) ?_
  intro h' tk' Eb x1 x2 x3 x4 ne y1 y2 y3 y4 F' N' hold
  let tl : Led := (endsL Eb x1 x2 x3 x4 ne (r.foldl (fun p t => stepP t p) p) y1 y2 y3 y4).filter fun x => decide (∀ q ∈ news, q.1 ≠ x.1)
  refine hret (.ref Eb) tl h' tk' F' (fun x hx => N' x ?_) (fun x hx z hz => ?_) ⟨_, hK, ?_⟩
  · rcases List.mem_append.mp hx with hx | hx
    · exact List.mem_append.mpr (.inl (List.mem_filter.mp hx).1)
    · exact List.mem_append.mpr (.inr hx)
  · have := (List.mem_filter.mp hz).2
    exact of_decide_eq_true this x hx
  · rw [← lst4_eq hE]
    refine ends_rep (Ea := Eb) (b1 := x1) (b2 := x2) (b3 := x3) (b4 := x4) (n := ne) (t1 := y1) (t2 := y2) (t3 := y3) (t4 := y4) fun x hx => ?_
    rcases hold x hx with h | h
    · rcases List.mem_cons.mp h with rfl | h
      · exact List.mem_append.mpr (.inr hm1)
      · exact List.mem_append.mpr (.inr (hm x h))
    · exact List.mem_append.mpr (.inl (List.mem_filter.mpr ⟨hx, decide_eq_true h⟩))
noncomputable def spShineA (l : List SV) (K : SV → Prop) : Prop := ∃ k, l = [.int k] ∧ K (svA k)
theorem shineA (w mean mg mb) : CallS w mean mg mb 182 4 spShineA := by
  rintro _ K ⟨k, rfl, hK⟩ vs N hr
  exact shineS w mean mg mb _ K ⟨k, rfl, by rw [shine_col]; exact hK⟩ vs N hr
noncomputable def spPaintA (l : List SV) (K : SV → Prop) : Prop := ∃ k, l = [.int k] ∧ K (svA k)
theorem paintA (w mean mg mb) : CallS w mean mg mb 156 2 spPaintA := by
  rintro _ K ⟨k, rfl, hK⟩ vs N hr
  exact paintS w mean mg mb _ K ⟨k, rfl, hK⟩ vs N hr
noncomputable def tbL : List (Nat × Spc) := [(156, spPaintA), (149, spSyms), (175, spDone), (182, spShineA)]
theorem tbL_ok (w mean mg mb) : ∀ p ∈ tbL, CallS w mean mg mb p.1 8 p.2 :=
  List.forall_mem_cons.mpr ⟨(paintA _ _ _ _).up (by decide), List.forall_mem_cons.mpr ⟨(symbolsS _ _ _ _).up (by decide), List.forall_mem_cons.mpr ⟨doneS _ _ _ _, List.forall_mem_cons.mpr ⟨(shineA _ _ _ _).up (by decide), tb_nil⟩⟩⟩⟩
noncomputable def cmL (op : CmpOp) (x y : SV) (K : Bool → Prop) : Prop := match op with
  | .NotEq => ∃ X Y, x = svA X ∧ y = svA Y ∧ X = Y ∧ K false
  | .Eq => ∃ p q, x = lst4 p ∧ y = lst4 q ∧ p = q ∧ K true
  | _ => False
section
variable {w : World} {mean : ExcName → Option Value} {mg mb : PySem.Str → Option Value} {dp un : Nat} {gd : Option (List Code)} {cn : PySem.Str} {cs : Scope} {a : Addr} {ccd : Value} {cl : List (PySem.Str × Addr)} {outer : List Env} {A₀ : Around} {base h₀ : Heap} {L : Addr} {W : Led} {m : PySem.Str → Option Value} {F : Led} {O : Own} {s : Shared} {E : Value → Shared → Prop}
theorem cmL_sound (X : (KF w.params).In h₀) (hu : un + 1 < cLine) {op : CmpOp} {x y : SV} {u v : Value} {K : Bool → Prop} {Q : Value → Shared → Prop} (hK : cmL op x y K) (H : HS h₀ L W s.heap m F O) (rx : Rep F x u) (ry : Rep F y v) (k : ∀ c, K c → Q (.bool c) s) : wpAny (model PySem.Challenge.rw_wf0099_01.prog w) (ktrTop dp un gd cn cs L a ccd cl outer) (compareOp op u v) Q E s := by
  have nb : NoneBooked s.heap := noneBooked X H.fr (by kernel_rfl)
  cases op
  case NotEq =>
    obtain ⟨X1, Y1, rfl, rfl, rfl, hK⟩ := hK
    obtain ⟨D, t1, t2, t3, rfl, hm⟩ := rep_col rx
    obtain ⟨D', u1, u2, u3, rfl, hm'⟩ := rep_col ry
    have g := (HS.news H (D, _) hm).1
    have g' := (HS.news H (D', _) hm').1
    (with_reducible refine ne_cols g g' (self_fm X1) nb ?_ ?_)
    · exact Nat.lt_of_succ_lt hu
    · exact k _ hK
  case Eq =>
    obtain ⟨p, q, rfl, rfl, rfl, hK⟩ := hK
    obtain ⟨Ea, a1, a2, a3, a4, n, t1, t2, t3, t4, rfl, hm⟩ := rep_ends rx
    obtain ⟨Eb, b1, b2, b3, b4, n', u1, u2, u3, u4, rfl, hm'⟩ := rep_ends ry
    have g : ∀ x ∈ endsL Ea a1 a2 a3 a4 n p t1 t2 t3 t4, s.heap.get? x.1 = some x.2 := fun x hx => (HS.news H x (hm x hx)).1
    have g' : ∀ x ∈ endsL Eb b1 b2 b3 b4 n' p u1 u2 u3 u4, s.heap.get? x.1 = some x.2 := fun x hx => (HS.news H x (hm' x hx)).1
    have e0 := g _ (List.Mem.head _)
    have e1 := g _ (List.Mem.tail _ (List.Mem.head _))
    have e2 := g _ (List.Mem.tail _ (List.Mem.tail _ (List.Mem.head _)))
    have e3 := g _ (List.Mem.tail _ (List.Mem.tail _ (List.Mem.tail _ (List.Mem.head _))))
    have e4 := g _ (List.Mem.tail _ (List.Mem.tail _ (List.Mem.tail _ (List.Mem.tail _ (List.Mem.head _)))))
    have f0 := g' _ (List.Mem.head _)
    have f1 := g' _ (List.Mem.tail _ (List.Mem.head _))
    have f2 := g' _ (List.Mem.tail _ (List.Mem.tail _ (List.Mem.head _)))
    have f3 := g' _ (List.Mem.tail _ (List.Mem.tail _ (List.Mem.tail _ (List.Mem.head _))))
    have f4 := g' _ (List.Mem.tail _ (List.Mem.tail _ (List.Mem.tail _ (List.Mem.tail _ (List.Mem.head _)))))
    (with_reducible refine eq_four (p1 := t1) (p2 := t2) (p3 := t3) (p4 := t4) (q1 := u1) (q2 := u2) (q3 := u3) (q4 := u4) e0 f0 e1 e2 e3 e4 f1 f2 f3 f4 (self_fm _) (self_fm _) (self_fm _) (self_fm _) nb ?_ ?_)
    · exact hu
    · exact k _ hK
  all_goals (exfalso; exact hK)
noncomputable def cvL (v : Value) (x : PySem.Str) : Option Value := match x == "pieces" with
  | true => some v
  | false => none
noncomputable abbrev parL (env : Env) (v : Value) : Par := parM env tbL (cvL v) cmL false
theorem parL_ok {v : Value} {c : Addr} {o : Obj} (hc : cl.lookup (PySem.Str.ofString "pieces") = some c) (hm : (c, o) ∈ W) (ho : o.data = .cell (some v)) (B : Below A₀ base outer h₀) (X : (KF w.params).In h₀) (T : Top QV LO mean mg mb h₀) (hk : cs.kind = .function) (hd : dp + 8 < recursionLimit) (hu : un + 8 * 8 < cLine) : ParOK (parL (envX cn cs L a ccd cl) v) w (ktrTop dp un gd cn cs L a ccd cl outer) (envX cn cs L a ccd cl) h₀ L W :=
  ⟨kdOf_ok, glF_ok w, (fun x v' h => by
    replace h : cvL v x = some v' := h
    unfold cvL at h
    split at h
    · rename_i e
      cases h
      have := eq_of_beq e; subst this
      exact ⟨c, o, hc, hm, ho, by decide⟩
    · cases h), fun _ _ _ _ _ _ _ _ _ _ _ _ _ hK H rx ry k => cmL_sound X (by omega) hK H rx ry k, fun _ _ _ _ _ _ _ _ _ _ _ hK hp H r k => usM_sound (tb_ok (tbL_ok _ _ _ _)) B X T hk hd hu hK hp H r k, fun _ _ _ _ _ _ _ _ _ _ _ _ h => Bool.noConfusion h⟩
theorem ixS (a x : Int) : IntMulOk a (secondN x) := PySem.IntMulOk.of_right (bits_second x)
theorem ixF (a x : Int) : IntMulOk a (firstN x) := PySem.IntMulOk.of_right (bits_first x)
theorem ixQ (a x y : Int) : IntMulOk a (qR x y) := PySem.IntMulOk.of_right (bits_q x y)
theorem ixR (x b : Int) : IntMulOk (rR x) b := PySem.IntMulOk.of_left (bits_r x)
theorem ixP (x y b : Int) : IntMulOk (pR x y) b := PySem.IntMulOk.of_left (bits_p x y)
theorem nz3 : (3 : Int) ≠ 0 := by decide
theorem ends4 {x y a b c d : Int} {n m : Int} (e1 : n = a) (e2 : m = b) (e3 : x = c) (e4 : y = d) : (n, m, x, y) = (a, b, c, d) := by rw [e1, e2, e3, e4]
noncomputable abbrev pcV (n : Int) : SV := .tup [.str (textN n), .int (firstN n), .int (secondN n), .int (gainN n)]
noncomputable abbrev psV (n1 n2 n3 n4 n5 n6 : Int) : SV := .lst [pcV n1, pcV n2, pcV n3, pcV n4, pcV n5, pcV n6]
noncomputable abbrev wsV (n1 n2 n3 n4 n5 n6 : Int) : SV := .lst [.str (wordS n1 n2), .str (wordS n3 n4), .str (wordS n5 n6)]
theorem law_end {body : List Stmt} {v vw : Value} {n1 n2 n3 n4 n5 n6 : Int} {c : Addr} {o : Obj} {Q : Flow → Shared → Prop} (hc : cl.lookup (PySem.Str.ofString "pieces") = some c) (hm : (c, o) ∈ W) (ho : o.data = .cell (some v)) (B : Below A₀ base outer h₀) (X : (KF w.params).In h₀) (T : Top QV LO mean mg mb h₀) (hk : cs.kind = .function) (hd : dp + 8 < recursionLimit) (hu : un + 8 * 8 < cLine) (hE : PassesOwn (model PySem.Challenge.rw_wf0099_01.prog w) (ktrTop dp un gd cn cs L a ccd cl outer) (envX cn cs L a ccd cl) E)
    (N : News h₀ L s.heap W) (F1 : Fr h₀ L s.heap m) (hp : Rep W (psV n1 n2 n3 n4 n5 n6) v) (hw : m (PySem.Str.ofString "words") = some vw) (rww : Rep W (wsV n1 n2 n3 n4 n5 n6) vw) (kp : kdOf (envX cn cs L a ccd cl) "pieces" = some .cell) (kw : kdOf (envX cn cs L a ccd cl) "words" = some .local)
    (hVC : gS (parL (envX cn cs L a ccd cl) v) 60 body [] [("pieces", psV n1 n2 n3 n4 n5 n6), ("words", wsV n1 n2 n3 n4 n5 n6)] fun r _ _ => (match r with | some v => v = .bool true | none => False))
    (hQ : ∀ h' tk m', Fr h₀ L h' m' → Q (.ret (.bool true)) { s with heap := h', toks := tk }) : wpAny (model PySem.Challenge.rw_wf0099_01.prog w) (ktrTop dp un gd cn cs L a ccd cl outer) (execs body (envX cn cs L a ccd cl)) Q E s := by
  have ok : ParOK (parL (envX cn cs L a ccd cl) v) w (ktrTop dp un gd cn cs L a ccd cl outer) (envX cn cs L a ccd cl) h₀ L W := parL_ok hc hm ho B X T hk hd hu
  refine body_sound (F := W) ok hk X T hE hVC (fun h => nomatch h) F1 N N ?_ ?_
  · intro y u e
    rw [List.lookup_cons] at e
    cases hb : (y == ("pieces" : PySem.Str)) with
    | true =>
      rw [hb] at e; cases e
      rw [eq_of_beq hb]
      refine ⟨v, ?_, hp⟩
      unfold rdv
      rw [show (parL (envX cn cs L a ccd cl) v).kd "pieces" = some .cell from kp]
      rfl
    | false =>
      rw [hb] at e
      exact vars_cons (P := parL (envX cn cs L a ccd cl) v) (x := "words") kw hw rww vars_nil y u e
  · rintro v' sv h' tk m' tl l2 F2 N2 _ _ rfl rep
    cases rep
    exact hQ h' tk m' F2
end
end Mine
end
section
open PySem PySem.W PyProof.Rows PySem.Spec PySem.Calls
namespace Mine
theorem loose_is : looseW QV LO = LO := by decide +kernel
end Mine
end
section
open Mine PySem PySem.W PyProof.Rows PySem.Spec PySem.Calls Lean Meta Elab Tactic
open PyProof.Rows.LCg PyProof.Rows.LCt
set_option linter.all false
set_option maxRecDepth 100000 in
set_option maxHeartbeats 0 in
theorem PySem.Challenge.cw_wf0099_01_holds : PySem.Challenge.rw_wf0099_01.Holds := by
  w_on
  refine holds_law (by kernel_rfl) fun said => ?_
  refine holds_open (q := QV) (loose := LO) (Xt := XTF) (XP := XL QV []) (Yf := Hook.obs (kHook KF asF asF_eq)) (Ya := Hook.val (kHook KF asF asF_eq)) (YP := Hook.says (kHook KF asF asF_eq)) (N := 31262) left (Hook.of (kHook KF asF asF_eq)) (Hook.keeps (kHook KF asF asF_eq)) (fun s e => xl_of s (Bool.and_eq_true_iff.mp e).1) XL.keeps (by rfl) (by rfl) (by rfl) (fun s e => recFacts_of (Bool.and_eq_true_iff.mp e).2) (by rfl) (by first | assumption | decide +kernel) (by decide +kernel) ⟨rfl, rfl, rfl, rfl, rfl, by decide +kernel⟩ ?hw ?hc
  case hw => w_witness2
  case' hc =>
    k_fill
    intro w s₀ s₁ mg mb G Y fa o pm cd doc dV kV ho hd hcd hD hmg hg args vals as hpre hlay hrd hwl hlo
    have KX := kIn_of Y
    have X := (Ground.X G).1
    have V := (Ground.X G).2
    refine Ground.open G ?_
    intro T B D TE TW
    try (refine guard_noD D (by decide +kernel) ?_; clear D)
    obtain ⟨_, _, M⟩ := bmod_of_top T
    have TA := at_of_top T
    try (obtain ⟨_, _, he, B0⟩ := based_of_top T rfl hmg ho hd; have he' : cd = _ := he; subst he'; clear he)
    clear hmg
    wrow_args hpre hlay hrd hwl hlo
    all_goals (
      first | refine callC_kw (enter_call ?_) | refine enter_call ?_ | refine callC_kw (enter_callW ?_) | refine enter_callW ?_ | w_how
      w_top on
      have K0 := below_caller (Top.heap T)
      w_call any ho hd hcd hD T F
      clear hd TA
      k_drop
      skip)
    all_goals try k_fold
  k_with_none
  k_with "exec Assign cons ListComp" => k_here; (with_reducible show wpAny _ _ (exec (Stmt.Assign [Expr.Name (PySem.Str.ofString "numbers") _] _ _) _) _ _ _); k_dflt (refine LCg.Assign_ListComp_U (F₀ := by k_asm) (by rfl) (by with_unfolding_all rfl) (by rfl) (by decide) (by rfl) (by decide) (by rfl) (by rfl) (by rfl) ?_)
  k_with "CompSrc" => refine Hid.out ?_
  k_with "CompEnd" => refine Hid.out ?_
  k_with "subscriptTail Name Slice ref ref" => k_here; (with_reducible show wpAny _ _ (subscriptTail (Expr.Name (PySem.Str.ofString "own") _) _ (Value.ref _) (Value.ref _)) _ _ _); k_dflt (refine' own_cut (by k_asm) (by k_asm) (by exact List.Mem.tail _ (by assumption)) (by rfl) (by show _ ≤ 6; assumption) (by exact (by decide : 6 ≤ 100)) ?_ (by with_unfolding_all rfl) (by kmk_pure)); intro D8 h8 F8 N8
  k_with "binaryOp Add ref ref" => k_here; k_dflt (refine' own_addL (by k_asm) (by k_asm) (by exact List.Mem.tail _ (List.Mem.head _)) (by exact List.Mem.head _) (by exact own_z (by assumption) (by exact Nat.le_refl _)) ?_); intro D8 h8 F8 N8
  k_with "exec Assign cons ListComp" => k_here; (with_reducible show wpAny _ _ (exec (Stmt.Assign [Expr.Name (PySem.Str.ofString "pieces") _] _ _) _) _ _ _); refine Hid.out ?_
  rename Fr _ _ _ _ => F9
  obtain ⟨m0, hm0, F0⟩ : ∃ m0 : PySem.Str → Option Value, m0 (PySem.Str.ofString "script") = some (.ref _) ∧ Fr _ _ _ m0 := ⟨_, by with_unfolding_all rfl, F9⟩
  clear F9
  have F8 := fr_ins F0 hm0 rfl
  clear F0
  k_steps
  refine Hid.mk ?_
  rename Fr _ _ _ _ => F9
  rename News _ _ _ _ => N9
  rename IntsAre _ (List.take 6 _) => hI9
  have hsz9 := hI9.length
  k_dflt (refine LCg.CompSrc.ledger (by rfl) F9 N9 (List.Mem.head _) ?hszs2 ?_)
  case hszs2 => rw [List.size_toArray, hsz9]; exact Nat.le_trans (List.length_take_le _ _) (by decide)
  intro g9
  refine ls_rest (fun v y => ∀ n t, v = .int n t → ∃ u, y = .int (n.fmod 1000000) u) ?turns2 (.inr ⟨_, List.Mem.head _, rfl, _, rfl⟩) srcAt_mono ?fins2
  case turns2 =>
    intro v9 I9 oI9 C9 oC9 D9 m9 ys9 h9 tk9 nw9 E9 hv9 hC9 hx9 F9 N9 off9 ne9 hS9
    obtain ⟨n9, t9, rfl⟩ := ints_mem hI9 hv9
    k_steps
    exact Hid.mk (CompEnd.intro (by k_asm) (by k_asm) nw9 (fun _ hp => hp) off9 hS9 ⟨fun _ hp => hp, fun n t e => ⟨_, by cases e; rfl⟩⟩)
  case' fins2 =>
    intro ys9 nw9 hr9 hs9
    have hi9 := ints_rel (f := fun n => n.fmod 1000000) hI9 hr9
    clear hr9
    have hown9 := hs9 _ (List.Mem.tail _ (List.Mem.head _))
    have hcel9 := hs9 _ (List.Mem.tail _ (List.Mem.tail _ (List.Mem.head _)))
    clear hs9
    have hle9 : ys9.length ≤ 6 := by rw [hi9.length, List.length_map]; exact List.length_take_le _ _
    have hle8 : (List.map (fun n => Int.fmod n 1000000) (List.take 6 _)).length ≤ 6 := hi9.length ▸ hle9
    k_steps
    rename Fr _ _ _ _ => F7
    rename News _ _ _ _ => N7
    obtain ⟨n1, n2, n3, n4, n5, n6, t1, t2, t3, t4, t5, t6, N5⟩ := pack_six N7 (List.Mem.tail _ (List.Mem.tail _ hcel9)) hi9 hle8 rfl
    clear N7
    obtain ⟨m1, hm1, F1⟩ : ∃ m1 : PySem.Str → Option Value, m1 (PySem.Str.ofString "numbers") = some (.ref _) ∧ Fr _ _ _ m1 := ⟨_, by with_unfolding_all rfl, F7⟩
    have F2 := fr_ins F1 hm1 rfl
    clear F1 F7
  k_with_none
  k_with "own tm" => first | (with_reducible exact List.mem_cons_self) | ((with_reducible refine List.mem_cons_of_mem _ ?_); k_extra "own tm")
  k_with "eval Name" => k_here; (with_reducible show wpAny _ _ (eval (Expr.Name _ _) (compEnvC _ _ _ _)) _ _ _); k_dflt (refine' LCgL.ld_global (by with_reducible assumption) (by with_reducible assumption) (by with_reducible assumption) (by k_is) ?_)
  k_with "call ref" => k_here; (with_reducible show wpAny _ _ (call (Value.ref 142) _) _ _ _); k_dflt ((refine' cl_use (by k_asm) (by k_asm) (by k_asm) (by k_asm) (by k_asm) (by first | exact rfl | assumption) (by ktr_room) (by ktr_units) (number _ _ _ _ _ _) (by first | trivial | assumption) ?_)); rintro _ _ h9 tk9 F9 N9 hl9 ⟨D9, u1, u2, u3, u4⟩; (have hl9 := ne_all hl9); (try simp only [List.nil_append, List.cons_append] at N9); (try dsimp only); (try k_fold)
  k_with "exec Assign cons ListComp" => k_here; (with_reducible show wpAny _ _ (exec (Stmt.Assign [Expr.Name (PySem.Str.ofString "pieces") _] _ _) _) _ _ _); k_dflt (refine wpAny_Assign_Name (LCg.ListComp_U (F₀ := by k_asm) (by rfl) (by decide) (by rfl) (by decide) (by rfl) ?_) (by rfl))
  k_with "CompSrc" => k_here; k_dflt (refine LCg.CompSrc.ledger (by rfl) (by k_asm) (by k_asm) (List.Mem.head _) (by exact Nat.le_of_ble_eq_true rfl) ?_); intro g9; lcg_lit
  k_with "CompRest" => with_unfolding_all first | (refine LCg.CompRest.succ ?_; intro v9 I9 oI9 C9 oC9 D8 m9 h9 tk9 E9 hv9 hC9 hx9 F9 N9 off9 ne9; lcg_open hv9) | refine LCg.CompRest.zero ?_
  k_with "CompEnd" => refine' own_compEnd (by assumption) (by assumption) (Or.inl (by assumption)) (by assumption) (by exact Or.inr ⟨_, by k_extra "own tm", rfl, _, rfl⟩) ?_
  k_with "storeName" => k_here; (with_reducible show wpAny _ _ (storeName _ (PySem.Str.ofString "pieces") _) _ _ _); refine Hid.out ?_
  refine Hid.mk ?_
  rename Ground _ _ _ _ _ _ _ _ _ => z9; clear z9
  rename Flt.MathXP _ _ _ => z9; clear z9
  rename Dflts _ _ _ _ _ _ => z9; clear z9
  rename Hook.says _ _ _ => z9; clear z9
  rename LooseAre _ _ _ => z9; clear z9
  rename Tables _ _ _ _ => z9; clear z9
  rename TopE _ _ _ _ => z9; clear z9
  rename TopW _ _ _ => z9; clear z9
  rename BMod _ _ _ _ _ => z9; clear z9
  rename Heap.CodeRec _ _ _ => z9; clear z9
  rename Reads _ _ _ _ => z9; clear z9
  rename ReadsAll _ _ _ _ => z9; clear z9
  rename Frag.In _ _ => KX
  revert KX
  k_fill
  intro KX
  rename Top _ _ _ _ _ _ => T9
  rw [loose_is] at T9
  k_steps
  k_with_none
  k_with "own tm" => first | (with_reducible exact List.mem_cons_self) | ((with_reducible refine List.mem_cons_of_mem _ ?_); k_extra "own tm") | fail
  k_with "own nc" => first | exact List.forall_mem_nil _ | (refine List.forall_mem_cons.mpr ⟨(by first | with_unfolding_all rfl | assumption), ?_⟩; k_extra "own nc")
  k_with "eval Name" => k_here; (with_reducible show wpAny _ _ (eval (Expr.Name _ _) (compEnvC _ _ _ _)) _ _ _); k_dflt (refine' LCgL.ld_global (by first | (with_reducible assumption) | fail) (by first | (with_reducible assumption) | fail) (by first | (with_reducible assumption) | fail) (by first | (k_is) | fail) ?_)
  k_with "eval Name" => k_here; (with_reducible show wpAny _ _ (eval (Expr.Name (PySem.Str.ofString "pieces") _) (compEnvC _ _ _ _)) _ _ _); k_dflt (refine' lcf_free (c := _) (by first | (with_reducible assumption) | fail) (by first | (exact rfl) | fail) (by first | (k_extra "own tm") | fail) (by first | (with_reducible assumption) | fail) ?_ (by rfl) (by rfl))
  k_with "own led" => k_here; (with_reducible show wpAny _ _ (subscriptTail _ _ (Value.ref _) (Value.int _ _)) _ _ _); k_dflt (first   | (refine' led_tup (hs := (by first | (with_unfolding_all rfl) | fail)) (by first | (with_reducible assumption) | fail) (by first | (k_extra "own tm") | fail) (by decide) (by decide) (by first | (exact rfl) | fail) ?_)   | (refine' led_list (hs := (by first | (with_unfolding_all rfl) | fail)) (by first | (with_reducible assumption) | fail) (by first | (k_extra "own tm") | fail) (by decide) (by decide) (by first | (exact rfl) | fail) ?_))
  k_with "subscriptTail Name Name ref int" => k_extra "own led"
  k_with "subscriptTail Name BinOp ref int" => k_extra "own led"
  k_with "subscriptTail Name Constant ref int" => k_extra "own led"
  k_with "subscriptTail Subscript Name Name Constant ref int" => k_extra "own led"
  k_with "subscriptTail Subscript Name BinOp Constant ref int" => k_extra "own led"
  k_with "subscriptTail Subscript Name Constant Constant ref int" => k_extra "own led"
  k_with "binaryOp Add str str" => k_here; k_dflt (refine PyProof.Rows.add_str (hsz := (by first | (first | with_reducible exact add_one _ | with_reducible exact add_two _ _) | fail)) ?_; intro _ _)
  k_with "eval ListComp" => k_here; (with_reducible show wpAny _ _ (eval (Expr.ListComp _ [⟨_, Expr.Tuple _ _ _, _, _⟩] _ _) _) _ _ _); k_dflt (refine ListComp_Tp (by k_asm) (by with_unfolding_all rfl) (by decide) (by rfl) (by decide) (by rfl) ?_ (by intro _; rfl))
  k_with "SrcTp" => k_here; k_dflt (refine SrcTp.intro (by rfl) (by k_asm) (by k_asm) (List.Mem.head _) (by exact Nat.le_of_ble_eq_true rfl) ?_); intro g9; lcg_lit
  k_with "CompRest" => with_unfolding_all first | (refine LCg.CompRest.succ ?_; intro v9 I9 oI9 C9 oC9 D8 m9 h9 tk9 E9 hv9 hC9 hx9 F9 N9 off9 ne9; lcg_open hv9; (try dsimp only)) | refine LCg.CompRest.zero ?_
  k_with "CompEnd" => refine' LCg.CompEnd.intro (by first | (with_reducible assumption) | fail) (by first | (with_reducible assumption) | fail) _ (fun _ hp => hp) (by assumption) (by first | (exact ⟨_, by k_extra "own tm", rfl, _, rfl⟩) | fail) ?_
  k_with "call builtin:str.join" => k_here; k_dflt (refine' join_six (by first | (with_reducible assumption) | fail) (by first | (k_extra "own tm") | fail) ?_); intro t8 k8
  k_with "eval ListComp" => k_here; (with_reducible show wpAny _ _ (eval (Expr.ListComp _ [⟨Expr.Name _ _, Expr.Name _ _, [_], _⟩] _ _) _) _ _ _); k_dflt (refine ListComp_XT (by k_asm) (by rfl) (by decide) (by rfl) (by decide) (by rfl) ?_ (by intro _; rfl))
  k_with "SrcXT" => refine Hid.out ?_
  refine Hid.mk ?_
  rename Frag.In _ _ => KX
  revert KX
  k_fill
  intro KX
  rename Fr _ _ _ _ => F9
  rename News _ _ _ _ => N9
  k_sweep
  k_dflt (refine' own_cell7 F9 N9 ?ocs4 ?ods4 ?ons4 ?_ ?oks4 ?oxs4)
  case ocs4 => exact rfl
  case ods4 => assumption
  case ons4 => k_extra "own nc"
  case oks4 => exact rfl
  case oxs4 => exact rfl
  clear F9 N9
  intro h8 o8 F8 N8 d8
  dsimp only
  k_steps

  k_with_none
  k_with "own tm" => first | (with_reducible exact List.mem_cons_self) | ((with_reducible refine List.mem_cons_of_mem _ ?_); k_extra "own tm") | fail
  k_with "eval Name" => k_here; (with_reducible show wpAny _ _ (eval (Expr.Name _ _) (compEnvC _ _ _ _)) _ _ _); k_dflt (refine' LCgL.ld_global (by first | (with_reducible assumption) | fail) (by first | (with_reducible assumption) | fail) (by first | (with_reducible assumption) | fail) (by first | (k_is) | fail) ?_)
  k_with "call ref" => k_here; (with_reducible show wpAny _ _ (call (Value.ref 74) _) _ _ _); k_dflt ((refine' cl_use (by k_asm) (by k_asm) (by k_asm) (by k_asm) (by k_asm) (by first | exact rfl | assumption) (by ktr_room) (by ktr_units) (tabB1 _ _ _ _ _ _) (by first | trivial | assumption) ?_)); rintro _ _ h9 tk9 F9 N9 hl9 ⟨e9, f9⟩; subst e9; subst f9; (try simp only [List.nil_append] at N9); (try dsimp only); (try k_fold)
  k_with "call ref" => k_here; (with_reducible show wpAny _ _ (call (Value.ref 120) _) _ _ _); k_dflt ((refine' cl_use (by k_asm) (by k_asm) (by k_asm) (by k_asm) (by k_asm) (by first | exact rfl | assumption) (by ktr_room) (by ktr_units) (mapTab _ _ _ _ _ _) (by first | trivial | assumption) ?_)); rintro _ _ h9 tk9 F9 N9 hl9 ⟨⟨u9, e9⟩, f9⟩; subst e9; subst f9; (try simp only [List.nil_append] at N9); (try dsimp only); (try k_fold)
  k_with "CompEnd" => refine Hid.out ?_
  k_with "call builtin:str.join" => k_here; k_dflt (refine' join_prep (P := World.params _) (by first | (with_reducible assumption) | fail) (by first | (k_extra "own tm") | fail) (by first | (with_reducible assumption) | fail) ?_); intro t8 k8
  k_with "call ref" => k_here; (with_reducible show wpAny _ _ (call (Value.ref 49) _) _ _ _); k_dflt (refine' clG_use (by first | (k_asm) | fail) (by first | (k_asm) | fail) (by first | (k_asm) | fail) (by first | (k_asm) | fail) (by first | (k_asm) | fail) (by first | (first | exact rfl | assumption) | fail) (by first | (ktr_room) | fail) (by first | (ktr_units) | fail) (strip _ _ _ _ _ _ (prepS_len _ _ _ _ _ _ _)) (by trivial) ?_); rintro _ _ h9 tk9 gs9 F9 N9 hl9 ⟨⟨u9, e9⟩, f9⟩ hb9; subst e9; subst f9; (try simp only [List.nil_append] at N9); (try dsimp only); (try k_fold)
  k_with "eval ListComp" => k_here; (with_reducible show wpAny _ _ (eval (Expr.ListComp _ [⟨Expr.Tuple _ _ _, _, [_], _⟩] _ _) _) _ _ _); refine Hid.out ?_
  refine Hid.mk ?_
  rename Frag.In _ _ => KX
  revert KX
  k_fill
  intro KX
  rename Fr _ _ _ _ => F9
  rename News _ _ _ _ => N9
  k_sweep
  replace N9 := newsDrop2 N9
  repeat (rename (∀ q ∈ _, @Ne Nat (Prod.fst q) _) => z9; clear z9)
  repeat (rename (∀ q ∈ _, ∀ p ∈ _, @Ne Nat (Prod.fst q) (Prod.fst p)) => z9; clear z9)
  repeat (rename LCg.Off3 _ _ _ _ => z9; clear z9)
  repeat (rename LCg.Off1 _ _ => z9; clear z9)
  repeat (rename LCg.NsObj _ _ => z9; clear z9)
  repeat (rename LCg.Off3 _ _ _ _ => z9; clear z9)
  refine ⟨_, _, _, rfl, rfl, F9, N9, ?szs5, ?_⟩
  case szs5 => exact Nat.le_trans (txt_len _ _ _ _ _ _) (by decide)
  rintro s₂ ⟨h2, rfl⟩
  rename World => w9
  refine tx_restT (fun c => !b1F c) (fun c v => ∃ t, v = .str (mapF w9.params c) t) ?turns5 ?fins5
  case turns5 =>
    intro c9 t9 I9 oI9 C9 oC9 D9 m9 ys9 h9 tk9 nw9 E9 hc9 hC9 hx9 F9 N9 off9 ne9
    try dsimp only
    k_steps
    · rename Fr _ _ _ _ => kF
      rename News _ _ _ _ => kN
      exact Hid.mk (CompEnd.intro kF kN nw9 (fun _ hp => hp) off9 trivial ⟨fun _ hp => hp, not_t (by assumption)⟩)
    · rename Fr _ _ _ _ => kF
      rename News _ _ _ _ => kN
      exact Hid.mk (CompEnd.intro kF kN nw9 (fun _ hp => hp) off9 trivial ⟨fun _ hp => hp, not_f (by assumption), _, rfl⟩)
  case' fins5 =>
    intro ys9 nw9 hr9 hs9
    have hi9 := Rels.strs hr9
    clear hr9
    refine fin_E hs9 ?_
    intro D9 h9 tk9 F9 N9
    try dsimp only
    k_steps
  k_with_none
  k_with "own tm" => first | (with_reducible exact List.mem_cons_self) | ((with_reducible refine List.mem_cons_of_mem _ ?_); k_extra "own tm") | fail
  k_with "eval Name" => k_here; (with_reducible show wpAny _ _ (eval (Expr.Name _ _) (compEnvC _ _ _ _)) _ _ _); k_dflt (refine' LCgL.ld_global (by first | (with_reducible assumption) | fail) (by first | (with_reducible assumption) | fail) (by first | (with_reducible assumption) | fail) (by first | (k_is) | fail) ?_)
  k_with "eval Name" => k_here; (with_reducible show wpAny _ _ (eval (Expr.Name _ _) (compEnvC _ _ _ _)) _ _ _); k_dflt (refine' LCgL.ld_built (by first | (with_reducible assumption) | fail) (by first | (with_reducible assumption) | fail) (by first | (with_reducible assumption) | fail) (by first | (k_is) | fail) (by first | (boot_by_name) | fail) (by decide) ?_)
  k_with "eval Name" => k_here; (with_reducible show wpAny _ _ (eval (Expr.Name _ _) (compEnvC _ _ _ _)) _ _ _); k_dflt (refine' LCgL.ld_own (by first | (with_reducible assumption) | fail) (by first | (k_extra "own tm") | fail) (by first | (with_reducible assumption) | fail) (by first | (with_reducible assumption) | fail) ?_)
  k_with "call ref" => k_here; (with_reducible show wpAny _ _ (call (Value.ref 42) _) _ _ _); k_dflt (refine' esc_callA (by first | (exact rfl) | fail) (by first | (ktr_room) | fail) (by first | (k_asm) | fail) (by first | (k_asm) | fail) (by first | (k_asm) | fail) (by first | (k_asm) | fail) ?_); refine Hid.out ?_
  k_with "CompEnd" => refine Hid.out ?_
  k_with "call builtin:len" => k_here; (with_reducible show wpAny _ _ (call (Value.builtin "len") [Value.str ⟨List.toArray _⟩ _]) _ _ _); k_dflt (refine' len_unit (by first | (with_reducible assumption) | fail) ?_)
  k_with "call builtin:str.join" => k_here; k_dflt (refine' join_kept (P := World.params _) (by first | (with_reducible assumption) | fail) (by first | (k_extra "own tm") | fail) (by first | (with_reducible assumption) | fail) ?_); intro t8 k8
  k_with "call ref" => k_here; (with_reducible show wpAny _ _ (call (Value.ref 56) _) _ _ _); k_dflt ((refine' cl_use (by k_asm) (by k_asm) (by k_asm) (by k_asm) (by k_asm) (by first | exact rfl | assumption) (by ktr_room) (by ktr_units) (decode _ _ _ _ _ _ _ _ _ (keptS_len _ _ _ _ _ _ _) (kept_split _ _ _ _ _ _ _)) (by first | trivial | assumption) ?_)); rintro _ _ h9 tk9 F9 N9 hl9 ⟨D9, u1, u2, u3, n9⟩; (try simp only [List.nil_append, List.cons_append] at N9); (try dsimp only); (try k_fold)
  k_with "execs cons" => k_here; (with_reducible show wpAny _ _ (execs (Stmt.Assign [Expr.Name (PySem.Str.ofString "facts") _] _ _ :: _) _) _ _ _); refine Hid.out ?_
  refine Hid.mk ?_
  rename Frag.In _ _ => KX
  revert KX
  k_fill
  intro KX
  rename Fr _ _ _ _ => F9
  rename News _ _ _ _ => N9
  k_sweep
  replace N9 := newsDrop N9
  rename Top QV LO _ _ _ _ => T9
  k_dflt (refine gc_use T9 F9 (by rfl) (by decide) (by rfl) (by decide) (by rfl) (by rfl) (by decide) ?_)
  k_steps
  refine Hid.mk ?_
  intro G9 a9 g9 h9 tk9 cde9 F9 hLG hGa ln9 hn9 EA hg9
  rename World => w9
  refine ⟨G9, a9, g9, _, _, rfl, rfl, ?rooms6, ?tops6, F9, hn9, hLG, hGa, ln9, EA, ?szs6, ?twos6, ?turns6, ?fins6⟩
  case rooms6 => ktr_room
  case tops6 => assumption
  case szs6 => exact units_sz w9.params _ _ _ _ _ _
  case twos6 => exact units_two _ _ _
  case turns6 =>
    intro p9 u9 t1 t2 I9 oI9 C9 oC9 D9 m9 ys9 h9 tk9 gs9 nw9 E9 hu2 hC9 ha9 hb9 F9 N9 off9 ne9
    try dsimp only
    k_steps
    · rename Fr _ _ _ _ => kF
      rename News _ _ _ _ => kN
      exact Hid.mk (CompEnd.intro kF kN nw9 (fun _ hp => hp) off9 trivial ⟨fun _ hp => hp, one_of (by assumption), _, rfl⟩)
    · rename Fr _ _ _ _ => kF
      rename News _ _ _ _ => kN
      exact Hid.mk (CompEnd.intro kF kN nw9 (fun _ hp => hp) off9 trivial ⟨fun _ hp => hp, not_one (by assumption)⟩)
  case' fins6 =>
    intro D9 h9 tk9 gs9 ys9 F9 N9 hy9 hb9
    rename AllBare _ → AllBare _ => hb8
    rename Eq (Shared.gens _) _ => hgn9
    have hbare9 : AllBare gs9 := hb9 (hg9 ▸ push_bare (hb8 (AllBare.of_eq hgn9)))
    clear hb9 hb8
    try dsimp only
    k_steps
  k_with_none
  k_with "own tm" => first | (with_reducible exact List.mem_cons_self) | ((with_reducible refine List.mem_cons_of_mem _ ?_); k_extra "own tm") | fail
  refine Hid.mk ?_
  rename Fr _ _ _ _ => F9
  rename News _ _ _ _ => N9
  obtain ⟨l1, hS1, hn1, hg1, hE1⟩ := word_turn n1 n2
  obtain ⟨l2, hS2, hn2, hg2, hE2⟩ := word_turn n3 n4
  obtain ⟨l3, hS3, hn3, hg3, hE3⟩ := word_turn n5 n6
  k_dflt (refine' law_end (n1 := n1) (n2 := n2) (n3 := n3) (n4 := n4) (n5 := n5) (n6 := n6) ?hcs7 ?hms7 ?hos7 ?hBs7 ?hXs7 ?hTs7 ?hks7 ?hds7 ?hus7 ?hEs7 ?hNs7 ?hFs7 ?hps7 ?hws7 ?hwws7 ?kps7 ?kws7 ?vcs7 ?hQs7)
  case hNs7 => exact N9
  case hFs7 => exact F9
  case hcs7 => exact rfl
  case hms7 => k_extra "own tm"
  case hos7 => assumption
  case hBs7 => k_asm
  case hXs7 => k_asm
  case hTs7 => k_asm
  case hks7 => exact rfl
  case hds7 => ktr_room
  case hus7 => ktr_units
  case hEs7 => passes_own
  case hws7 => with_unfolding_all rfl
  case hps7 => exact .lst _ [_, _, _, _, _, _] _ _ (by k_extra "own tm") (.cons (.tup _ [_, _, _, _] _ (by k_extra "own tm") (.cons (.str _ _) (.cons (.int _ _) (.cons (.int _ _) (.cons (.int _ _) .nil))))) (.cons (.tup _ [_, _, _, _] _ (by k_extra "own tm") (.cons (.str _ _) (.cons (.int _ _) (.cons (.int _ _) (.cons (.int _ _) .nil))))) (.cons (.tup _ [_, _, _, _] _ (by k_extra "own tm") (.cons (.str _ _) (.cons (.int _ _) (.cons (.int _ _) (.cons (.int _ _) .nil))))) (.cons (.tup _ [_, _, _, _] _ (by k_extra "own tm") (.cons (.str _ _) (.cons (.int _ _) (.cons (.int _ _) (.cons (.int _ _) .nil))))) (.cons (.tup _ [_, _, _, _] _ (by k_extra "own tm") (.cons (.str _ _) (.cons (.int _ _) (.cons (.int _ _) (.cons (.int _ _) .nil))))) (.cons (.tup _ [_, _, _, _] _ (by k_extra "own tm") (.cons (.str _ _) (.cons (.int _ _) (.cons (.int _ _) (.cons (.int _ _) .nil))))) .nil))))))
  case hwws7 => exact .lst _ [_, _, _] _ _ (by k_extra "own tm") (.cons (.str _ _) (.cons (.str _ _) (.cons (.str _ _) .nil)))
  case kps7 => rfl
  case kws7 => rfl
  case vcs7 =>
    refine And.intro ?_ ?_
    · exact ixS _ n1
    refine And.intro ?_ ?_
    · exact ixS _ n2
    refine And.intro ?_ ?_
    · exact ixS _ n2
    refine And.intro ?_ ?_
    · exact ixS _ n1
    refine And.intro ?_ ?_
    · exact ixF _ n2
    refine And.intro ?_ ?_
    · exact ixS _ n2
    refine And.intro ?_ ?_
    · exact ixS _ n1
    refine And.intro ?_ ?_
    · exact ixF _ n2
    refine And.intro ?_ ?_
    · exact ixS _ n1
    refine And.intro ?_ ?_
    · exact ixS _ n3
    refine And.intro ?_ ?_
    · exact ixS _ n4
    refine And.intro ?_ ?_
    · exact ixS _ n4
    refine And.intro ?_ ?_
    · exact ixS _ n3
    refine And.intro ?_ ?_
    · exact ixF _ n4
    refine And.intro ?_ ?_
    · exact ixS _ n4
    refine And.intro ?_ ?_
    · exact ixS _ n3
    refine And.intro ?_ ?_
    · exact ixF _ n4
    refine And.intro ?_ ?_
    · exact ixS _ n3
    refine And.intro ?_ ?_
    · exact ixS _ n5
    refine And.intro ?_ ?_
    · exact ixS _ n6
    refine And.intro ?_ ?_
    · exact ixS _ n6
    refine And.intro ?_ ?_
    · exact ixS _ n5
    refine And.intro ?_ ?_
    · exact ixF _ n6
    refine And.intro ?_ ?_
    · exact ixS _ n6
    refine And.intro ?_ ?_
    · exact ixS _ n5
    refine And.intro ?_ ?_
    · exact ixF _ n6
    refine And.intro ?_ ?_
    · exact ixS _ n5
    refine And.intro ?_ ?_
    · exact nz3
    refine And.intro ?_ ?_
    · exact nz3
    refine And.intro ?_ ?_
    · exact ixQ _ n5 n6
    refine And.intro ?_ ?_
    · exact ixR n1 _
    refine ⟨_, rfl, ?_⟩
    refine ⟨_, rfl, ?_⟩
    refine ⟨_, l1, rfl, wordS_len _ _, hS1, hn1, ?_⟩
    refine ⟨l1, (bR n1 n2 0 (qR n3 n4 * qR n5 n6), bR n1 n2 0 (qR n3 n4 * qR n5 n6), bR n1 n2 0 (qR n3 n4 * qR n5 n6) - (qR n3 n4 * qR n5 n6), bR n1 n2 0 (qR n3 n4 * qR n5 n6) - (qR n3 n4 * qR n5 n6)), endP n1 n2 0 (qR n3 n4 * qR n5 n6), rfl, hg1, hn1, hE1 _ _, ?_⟩
    refine And.intro ?_ ?_
    · exact ixP n1 n2 _
    refine And.intro ?_ ?_
    · exact nz3
    refine And.intro ?_ ?_
    · exact nz3
    refine And.intro ?_ ?_
    · exact ixQ _ n1 n2
    refine And.intro ?_ ?_
    · exact ixR n3 _
    refine ⟨_, rfl, ?_⟩
    refine ⟨_, rfl, ?_⟩
    refine ⟨_, l2, rfl, wordS_len _ _, hS2, hn2, ?_⟩
    refine ⟨l2, (bR n3 n4 (0 + pR n1 n2 * (qR n3 n4 * qR n5 n6)) (qR n5 n6 * qR n1 n2), bR n3 n4 (0 + pR n1 n2 * (qR n3 n4 * qR n5 n6)) (qR n5 n6 * qR n1 n2), bR n3 n4 (0 + pR n1 n2 * (qR n3 n4 * qR n5 n6)) (qR n5 n6 * qR n1 n2) - (qR n5 n6 * qR n1 n2), bR n3 n4 (0 + pR n1 n2 * (qR n3 n4 * qR n5 n6)) (qR n5 n6 * qR n1 n2) - (qR n5 n6 * qR n1 n2)), endP n3 n4 (0 + pR n1 n2 * (qR n3 n4 * qR n5 n6)) (qR n5 n6 * qR n1 n2), rfl, hg2, hn2, hE2 _ _, ?_⟩
    refine And.intro ?_ ?_
    · exact ixP n3 n4 _
    refine And.intro ?_ ?_
    · exact nz3
    refine And.intro ?_ ?_
    · exact nz3
    refine And.intro ?_ ?_
    · exact ixQ _ n3 n4
    refine And.intro ?_ ?_
    · exact ixR n5 _
    refine ⟨_, rfl, ?_⟩
    refine ⟨_, rfl, ?_⟩
    refine ⟨_, l3, rfl, wordS_len _ _, hS3, hn3, ?_⟩
    refine ⟨l3, (bR n5 n6 ((0 + pR n1 n2 * (qR n3 n4 * qR n5 n6)) + pR n3 n4 * (qR n5 n6 * qR n1 n2)) (qR n1 n2 * qR n3 n4), bR n5 n6 ((0 + pR n1 n2 * (qR n3 n4 * qR n5 n6)) + pR n3 n4 * (qR n5 n6 * qR n1 n2)) (qR n1 n2 * qR n3 n4), bR n5 n6 ((0 + pR n1 n2 * (qR n3 n4 * qR n5 n6)) + pR n3 n4 * (qR n5 n6 * qR n1 n2)) (qR n1 n2 * qR n3 n4) - (qR n1 n2 * qR n3 n4), bR n5 n6 ((0 + pR n1 n2 * (qR n3 n4 * qR n5 n6)) + pR n3 n4 * (qR n5 n6 * qR n1 n2)) (qR n1 n2 * qR n3 n4) - (qR n1 n2 * qR n3 n4)), endP n5 n6 ((0 + pR n1 n2 * (qR n3 n4 * qR n5 n6)) + pR n3 n4 * (qR n5 n6 * qR n1 n2)) (qR n1 n2 * qR n3 n4), rfl, hg3, hn3, hE3 _ _, ?_⟩
    refine And.intro ?_ ?_
    · exact ixP n5 n6 _
    refine ⟨_, _, rfl, rfl, eqA n1 n2 n3 n4 0 (qR n3 n4 * qR n5 n6) (qR n5 n6 * qR n1 n2), ?_⟩
    refine And.intro (fun h => nomatch h) (fun _ => ?_)
    refine ⟨_, _, rfl, rfl, eqB n1 n2 n3 n4 0 (qR n5 n6), ?_⟩
    refine And.intro (fun h => nomatch h) (fun _ => ?_)
    refine And.intro (fun h => nomatch h) (fun _ => ?_)
    refine ⟨_, _, rfl, rfl, eqA n3 n4 n5 n6 (0 + pR n1 n2 * (qR n3 n4 * qR n5 n6)) (qR n5 n6 * qR n1 n2) (qR n1 n2 * qR n3 n4), ?_⟩
    refine And.intro (fun h => nomatch h) (fun _ => ?_)
    refine ⟨_, _, rfl, rfl, eqB n3 n4 n5 n6 (0 + pR n1 n2 * (qR n3 n4 * qR n5 n6)) (qR n1 n2), ?_⟩
    refine And.intro (fun h => nomatch h) (fun _ => ?_)
    refine And.intro (fun h => nomatch h) (fun _ => ?_)
    refine And.intro ?_ ?_
    · exact ixQ _ n3 n4
    refine And.intro ?_ ?_
    · exact ixQ _ n5 n6
    refine ⟨_, rfl, ?_⟩
    refine ⟨_, rfl, ?_⟩
    refine ⟨_, rfl, ?_⟩
    refine ⟨_, rfl, ?_⟩
    exact ⟨((endP n1 n2 0 (qR n3 n4 * qR n5 n6)).1, (endP n1 n2 0 (qR n3 n4 * qR n5 n6)).2.2.2, (endP n5 n6 ((0 + pR n1 n2 * (qR n3 n4 * qR n5 n6)) + pR n3 n4 * (qR n5 n6 * qR n1 n2)) (qR n1 n2 * qR n3 n4)).2.1, (endP n5 n6 ((0 + pR n1 n2 * (qR n3 n4 * qR n5 n6)) + pR n3 n4 * (qR n5 n6 * qR n1 n2)) (qR n1 n2 * qR n3 n4)).2.2.1), (0, -(qR n1 n2 * qR n3 n4 * qR n5 n6), (((0 + pR n1 n2 * (qR n3 n4 * qR n5 n6)) + pR n3 n4 * (qR n5 n6 * qR n1 n2)) + pR n5 n6 * (qR n1 n2 * qR n3 n4)), (((0 + pR n1 n2 * (qR n3 n4 * qR n5 n6)) + pR n3 n4 * (qR n5 n6 * qR n1 n2)) + pR n5 n6 * (qR n1 n2 * qR n3 n4)) - qR n1 n2 * qR n3 n4 * qR n5 n6), rfl, rfl, ends4 (eq1 _ _ _) (eq2 _ _ _ _) (eq3 _ _ _ _) (eq4 _ _ _ _ _), rfl⟩
  case hQs7 =>
    intro h' tk m' F'
    k_unfold
    try dsimp only
    refine good_true F' (by with_reducible assumption) (raisesW_false ?_) ?_ rfl
    · wrow_none_raised
    · with_unfolding_all rfl
end
