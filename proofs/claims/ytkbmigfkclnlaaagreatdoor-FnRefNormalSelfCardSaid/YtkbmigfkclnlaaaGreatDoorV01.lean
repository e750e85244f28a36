/-
FnRefNormalSelf: the regular expressions, the digest and the reference, part 1 of 26.
-/
set_option linter.all false
namespace Go.Rx

structure Inst where
 op : Nat
 out : Nat
 arg : Nat
 rune : List Int

structure Env where
 prog : Nat → Inst
 n : Nat
 st : Nat → Int × Nat
 ew : Nat → Nat → Bool
 takes : Inst → Int → Bool
 rank : Nat → Nat
 top : Nat

namespace Env
variable (E : Env)

def mu (pc pos : Nat) : Nat := (E.n + 1 - pos) * E.top + E.rank pc

structure Ok : Prop where
 wide : ∀ p, p < E.n → 1 ≤ (E.st p).2 ∧ p + (E.st p).2 ≤ E.n
 rank_lt : ∀ pc, E.rank pc < E.top
 ends : ∀ p pc, E.n ≤ p → E.takes (E.prog pc) (E.st p).1 = false
 ops : ∀ pc, (E.prog pc).op ≠ 1 ∧ (E.prog pc).op ≤ 10
 alt : ∀ pc, (E.prog pc).op = 0 → E.rank (E.prog pc).out < E.rank pc ∧ E.rank (E.prog pc).arg < E.rank pc
 free : ∀ pc, (E.prog pc).op = 2 ∨ (E.prog pc).op = 3 ∨ (E.prog pc).op = 6 → E.rank (E.prog pc).out < E.rank pc

def resF (E : Env) : Nat → Nat → Nat → List Int → Option (List Int)
 | 0, _, _, _ => none
 | k + 1, pc, pos, c =>
  let i := E.prog pc
  if i.op = 0 then (resF E k i.out pos c).or (resF E k i.arg pos c)
  else if i.op = 2 then resF E k i.out pos (if i.arg < c.length then c.set i.arg pos else c)
  else if i.op = 3 then if E.ew i.arg pos then resF E k i.out pos c else none
  else if i.op = 4 then some (if 1 < c.length then c.set 1 pos else c)
  else if i.op = 5 then none
  else if i.op = 6 then resF E k i.out pos c
  else if E.takes i (E.st pos).1 then resF E k i.out (pos + (E.st pos).2) c else none

variable {E}

theorem mu_place (h : E.Ok) {pc pc' pos pos' : Nat} (h1 : pos < pos') (h2 : pos' ≤ E.n) : E.mu pc' pos' < E.mu pc pos := by
 unfold mu
 have := h.rank_lt pc'
 have e : E.n + 1 - pos = (E.n + 1 - pos') + (pos' - pos) := by omega
 rw [e, Nat.add_mul]
 have : E.top ≤ (pos' - pos) * E.top := Nat.le_mul_of_pos_left _ (by omega)
 omega

theorem mu_rank {pc pc' pos : Nat} (h : E.rank pc' < E.rank pc) : E.mu pc' pos < E.mu pc pos := by
 unfold mu; omega

theorem resF_more (h : E.Ok) : ∀ (k : Nat) (pc pos : Nat) (c : List Int), E.mu pc pos < k → resF E k pc pos c = resF E (E.mu pc pos + 1) pc pos c := by
 have key : ∀ (m : Nat) (pc pos : Nat) (c : List Int) (k k' : Nat), E.mu pc pos ≤ m → E.mu pc pos < k → E.mu pc pos < k' → resF E k pc pos c = resF E k' pc pos c := by
  intro m
  induction m using Nat.strongRecOn with
  | _ m ih =>
   intro pc pos c k k' hm hk hk'
   obtain ⟨k, rfl⟩ : ∃ j, k = j + 1 := ⟨k - 1, by omega⟩
   obtain ⟨k', rfl⟩ : ∃ j, k' = j + 1 := ⟨k' - 1, by omega⟩
   have go : ∀ (pc' pos' : Nat) (c' : List Int), E.mu pc' pos' < E.mu pc pos → resF E k pc' pos' c' = resF E k' pc' pos' c' := fun pc' pos' c' hlt =>
    ih (E.mu pc' pos') (by omega) pc' pos' c' k k' (Nat.le_refl _) (by omega) (by omega)
   simp only [resF]
   by_cases h0 : (E.prog pc).op = 0
   ·simp only [h0, if_true]
    obtain ⟨a1, a2⟩ := h.alt pc h0
    rw [go _ _ _ (mu_rank a1), go _ _ _ (mu_rank a2)]
   ·simp only [h0, if_false]
    by_cases h2 : (E.prog pc).op = 2
    ·simp only [h2, if_true]; exact go _ _ _ (mu_rank (h.free pc (.inl h2)))
    ·simp only [h2, if_false]
     by_cases h3 : (E.prog pc).op = 3
     ·simp only [h3, if_true]
      split
      ·exact go _ _ _ (mu_rank (h.free pc (.inr (.inl h3))))
      ·rfl
     ·simp only [h3, if_false]
      by_cases h4 : (E.prog pc).op = 4
      ·simp only [h4, if_true]
      ·simp only [h4, if_false]
       by_cases h5 : (E.prog pc).op = 5
       ·simp only [h5, if_true]
       ·simp only [h5, if_false]
        by_cases h6 : (E.prog pc).op = 6
        ·simp only [h6, if_true]; exact go _ _ _ (mu_rank (h.free pc (.inr (.inr h6))))
        ·simp only [h6, if_false]
         split
         ·rename_i ht
          rcases Nat.lt_or_ge pos E.n with hp | hp
          ·obtain ⟨w1, w2⟩ := h.wide pos hp
           exact go _ _ _ (mu_place h (by omega) w2)
          ·rw [h.ends pos _ hp] at ht; cases ht
         ·rfl
 intro k pc pos c hk
 exact key _ pc pos c k _ (Nat.le_refl _) hk (Nat.lt_succ_self _)

def res (E : Env) (pc pos : Nat) (c : List Int) : Option (List Int) := resF E (E.mu pc pos + 1) pc pos c

theorem res_eq (h : E.Ok) (pc pos : Nat) (c : List Int) : res E pc pos c =
  (if (E.prog pc).op = 0 then (res E (E.prog pc).out pos c).or (res E (E.prog pc).arg pos c)
  else if (E.prog pc).op = 2 then res E (E.prog pc).out pos (if (E.prog pc).arg < c.length then c.set (E.prog pc).arg pos else c)
  else if (E.prog pc).op = 3 then if E.ew (E.prog pc).arg pos then res E (E.prog pc).out pos c else none
  else if (E.prog pc).op = 4 then some (if 1 < c.length then c.set 1 pos else c)
  else if (E.prog pc).op = 5 then none
  else if (E.prog pc).op = 6 then res E (E.prog pc).out pos c
  else if E.takes (E.prog pc) (E.st pos).1 then res E (E.prog pc).out (pos + (E.st pos).2) c else none) := by
 unfold res
 conv => lhs; unfold resF
 have go : ∀ (pc' pos' : Nat) (c' : List Int), E.mu pc' pos' < E.mu pc pos → resF E (E.mu pc pos) pc' pos' c' = resF E (E.mu pc' pos' + 1) pc' pos' c' := fun pc' pos' c' hlt =>
  resF_more h _ _ _ _ hlt
 dsimp only
 by_cases h0 : (E.prog pc).op = 0
 ·simp only [h0, if_true]
  obtain ⟨a1, a2⟩ := h.alt pc h0
  rw [go _ _ _ (mu_rank a1), go _ _ _ (mu_rank a2)]
 ·simp only [h0, if_false]
  by_cases h2 : (E.prog pc).op = 2
  ·simp only [h2, if_true]; exact go _ _ _ (mu_rank (h.free pc (.inl h2)))
  ·simp only [h2, if_false]
   by_cases h3 : (E.prog pc).op = 3
   ·simp only [h3, if_true]
    split
    ·exact go _ _ _ (mu_rank (h.free pc (.inr (.inl h3))))
    ·rfl
   ·simp only [h3, if_false]
    by_cases h4 : (E.prog pc).op = 4
    ·simp only [h4, if_true]
    ·simp only [h4, if_false]
     by_cases h5 : (E.prog pc).op = 5
     ·simp only [h5, if_true]
     ·simp only [h5, if_false]
      by_cases h6 : (E.prog pc).op = 6
      ·simp only [h6, if_true]; exact go _ _ _ (mu_rank (h.free pc (.inr (.inr h6))))
      ·simp only [h6, if_false]
       split
       ·rename_i ht
        rcases Nat.lt_or_ge pos E.n with hp | hp
        ·obtain ⟨w1, w2⟩ := h.wide pos hp
         exact go _ _ _ (mu_place h (by omega) w2)
        ·rw [h.ends pos _ hp] at ht; cases ht
       ·rfl


structure Job where
 pc : Nat
 arg : Bool
 pos : Int

structure BS where
 jobs : List Job
 vis : Nat → Nat → Bool
 cap : List Int
 mcap : List Int

inductive Mode where
 | pop
 | go (pc pos : Nat)
 | fin (ok : Bool)

def mark (v : Nat → Nat → Bool) (pc pos : Nat) : Nat → Nat → Bool := fun a b => if a = pc ∧ b = pos then true else v a b

def enter (E : Env) (b : BS) (pc pos : Nat) : BS × Mode :=
 let i := E.prog pc
 if i.op = 0 then ({ b with jobs := ⟨pc, true, pos⟩ :: b.jobs }, .go i.out pos)
 else if i.op = 2 then
  if i.arg < b.cap.length then ({ b with jobs := ⟨pc, true, b.cap.getD i.arg 0⟩ :: b.jobs, cap := b.cap.set i.arg pos }, .go i.out pos) else (b, .go i.out pos)
 else if i.op = 3 then if E.ew i.arg pos then (b, .go i.out pos) else (b, .pop)
 else if i.op = 4 then
  if b.cap.length = 0 then (b, .fin true)
  else
   let c := if 1 < b.cap.length then b.cap.set 1 pos else b.cap
   ({ b with cap := c, mcap := if b.mcap.getD 1 0 = -1 then c else b.mcap }, .fin true)
 else if i.op = 6 then (b, .go i.out pos)
 else if E.takes i (E.st pos).1 then (b, .go i.out (pos + (E.st pos).2)) else (b, .pop)

def move (E : Env) : BS × Mode → BS × Mode
 | (b, .fin ok) => (b, .fin ok)
 | (b, .go pc pos) => if b.vis pc pos then (b, .pop) else enter E { b with vis := mark b.vis pc pos } pc pos
 | (b, .pop) =>
  match b.jobs with
  | [] => (b, .fin false)
  | j :: r =>
   let b' := { b with jobs := r }
   if j.arg then
    if (E.prog j.pc).op = 0 then (b', .go (E.prog j.pc).arg j.pos.toNat)
    else ({ b' with cap := b'.cap.set (E.prog j.pc).arg j.pos }, .pop)
   else enter E b' j.pc j.pos.toNat

def moves (E : Env) : Nat → BS × Mode → BS × Mode
 | 0, s => s
 | k + 1, s => moves E k (move E s)

theorem moves_add (a b : Nat) (s : BS × Mode) : moves E (a + b) s = moves E b (moves E a s) := by
 induction a generalizing s with
 | zero => simp [moves]
 | succ a ih => rw [show a + 1 + b = (a + b) + 1 by omega]; simp only [moves]; exact ih _

def Leads (E : Env) (s t : BS × Mode) : Prop := ∃ k, moves E k s = t
theorem Leads.refl (s : BS × Mode) : Leads E s s := ⟨0, rfl⟩
theorem Leads.trans {s t u : BS × Mode} (h : Leads E s t) (g : Leads E t u) : Leads E s u := by
 obtain ⟨a, ha⟩ := h; obtain ⟨b, hb⟩ := g
 exact ⟨a + b, by rw [moves_add, ha, hb]⟩
theorem Leads.step {s t : BS × Mode} (h : Leads E (move E s) t) : Leads E s t := Leads.trans ⟨1, rfl⟩ h

theorem res_some (h : E.Ok) : ∀ (m pc pos : Nat) (c c' : List Int), E.mu pc pos ≤ m → (res E pc pos c).isSome = (res E pc pos c').isSome := by
 intro m
 induction m using Nat.strongRecOn with
 | _ m ih =>
  intro pc pos c c' hm
  rw [res_eq h pc pos c, res_eq h pc pos c']
  have go : ∀ (pc' pos' : Nat) (d d' : List Int), E.mu pc' pos' < E.mu pc pos → (res E pc' pos' d).isSome = (res E pc' pos' d').isSome := fun pc' pos' d d' hlt =>
   ih (E.mu pc' pos') (by omega) pc' pos' d d' (Nat.le_refl _)
  by_cases h0 : (E.prog pc).op = 0
  ·simp only [h0, if_true]
   obtain ⟨a1, a2⟩ := h.alt pc h0
   rw [Option.isSome_or, Option.isSome_or, go _ _ c c' (mu_rank a1), go _ _ c c' (mu_rank a2)]
  ·simp only [h0, if_false]
   by_cases h2 : (E.prog pc).op = 2
   ·simp only [h2, if_true]; exact go _ _ _ _ (mu_rank (h.free pc (.inl h2)))
   ·simp only [h2, if_false]
    by_cases h3 : (E.prog pc).op = 3
    ·simp only [h3, if_true]
     split
     ·exact go _ _ _ _ (mu_rank (h.free pc (.inr (.inl h3))))
     ·rfl
    ·simp only [h3, if_false]
     by_cases h4 : (E.prog pc).op = 4
     ·simp only [h4, if_true]; rfl
     ·simp only [h4, if_false]
      by_cases h5 : (E.prog pc).op = 5
      ·simp only [h5, if_true]
      ·simp only [h5, if_false]
       by_cases h6 : (E.prog pc).op = 6
       ·simp only [h6, if_true]; exact go _ _ _ _ (mu_rank (h.free pc (.inr (.inr h6))))
       ·simp only [h6, if_false]
        split
        ·rename_i ht
         rcases Nat.lt_or_ge pos E.n with hp | hp
         ·obtain ⟨w1, w2⟩ := h.wide pos hp
          exact go _ _ _ _ (mu_place h (by omega) w2)
         ·rw [h.ends pos _ hp] at ht; cases ht
        ·rfl

def dead (E : Env) (pc pos : Nat) : Prop := res E pc pos [] = none

theorem dead_iff (h : E.Ok) (pc pos : Nat) (c : List Int) : dead E pc pos ↔ res E pc pos c = none := by
 unfold dead
 have := res_some h _ pc pos [] c (Nat.le_refl _)
 cases h1 : res E pc pos [] <;> cases h2 : res E pc pos c <;> simp_all

def Clean (E : Env) (v : Nat → Nat → Bool) (m : Nat) : Prop := ∀ pc pos, v pc pos = true → E.mu pc pos ≤ m → dead E pc pos

def Grew (E : Env) (v v' : Nat → Nat → Bool) : Prop := (∀ pc pos, v pc pos = true → v' pc pos = true) ∧ ∀ pc pos, v' pc pos = true → v pc pos = false → dead E pc pos

theorem Clean.mono {v : Nat → Nat → Bool} {m m' : Nat} (h : Clean E v m) (hm : m' ≤ m) : Clean E v m' := fun pc pos hv hle => h pc pos hv (by omega)

theorem Clean.marked {v : Nat → Nat → Bool} {pc pos m' : Nat} (h : Clean E v (E.mu pc pos)) (hm : m' < E.mu pc pos) : Clean E (mark v pc pos) m' := by
 intro a b hv hle
 unfold mark at hv
 split at hv
 ·rename_i e; obtain ⟨rfl, rfl⟩ := e; omega
 ·exact h a b hv (by omega)

theorem Clean.grown {v v' : Nat → Nat → Bool} {m : Nat} (h : Clean E v m) (g : Grew E v v') : Clean E v' m := by
 intro a b hv hle
 cases hb : v a b with
 | true => exact h a b hb hle
 | false => exact g.2 a b hv hb

theorem Grew.refl (v : Nat → Nat → Bool) : Grew E v v := ⟨fun _ _ h => h, fun _ _ h1 h2 => by rw [h1] at h2; cases h2⟩
theorem Grew.trans {u v w : Nat → Nat → Bool} (h : Grew E u v) (g : Grew E v w) : Grew E u w := by
 refine ⟨fun a b hu => g.1 a b (h.1 a b hu), fun a b hw hu => ?_⟩
 cases hv : v a b with
 | true => exact h.2 a b hv hu
 | false => exact g.2 a b hw hv
theorem Grew.marked {v : Nat → Nat → Bool} {pc pos : Nat} (h : dead E pc pos) : Grew E v (mark v pc pos) := by
 refine ⟨fun a b hv => ?_, fun a b hm hv => ?_⟩
 ·unfold mark; split
  ·rfl
  ·exact hv
 ·unfold mark at hm
  split at hm
  ·rename_i e; obtain ⟨rfl, rfl⟩ := e; exact h
  ·rw [hm] at hv; cases hv

def Comes (E : Env) (s : BS × Mode) (b : BS) (pc pos : Nat) : Prop :=
 (∃ r b', res E pc pos b.cap = some r ∧ Leads E s (b', .fin true) ∧ b'.mcap = (if b.cap.length = 0 then b.mcap else if b.mcap.getD 1 0 = -1 then r else b.mcap)) ∨
 (res E pc pos b.cap = none ∧ ∃ v', Leads E s ({ b with vis := v' }, .pop) ∧ Grew E b.vis v')

theorem set_back (l : List Int) (i : Nat) : l.set i (l[i]?.getD 0) = l := by
 rcases Nat.lt_or_ge i l.length with h | h
 ·rw [List.getElem?_eq_getElem h]; exact List.set_getElem_self h
 ·exact List.set_eq_of_length_le h

theorem comes_enter (h : E.Ok) {b : BS} {pc pos : Nat} (hf : (E.prog pc).op ≠ 5) (hmc : b.mcap.length = b.cap.length)
  (ih : ∀ (b' : BS) (pc' pos' : Nat), E.mu pc' pos' < E.mu pc pos → b'.mcap.length = b'.cap.length → Clean E b'.vis (E.mu pc' pos') → Comes E (b', .go pc' pos') b' pc' pos')
  (hc : ∀ m, m < E.mu pc pos → Clean E b.vis m) : Comes E (enter E b pc pos) b pc pos := by
 unfold Comes
 rw [res_eq h]
 have hops := h.ops pc
 unfold enter
 by_cases h0 : (E.prog pc).op = 0
 ·simp only [h0, if_true]
  obtain ⟨a1, a2⟩ := h.alt pc h0
  have l1 := mu_rank (E := E) (pos := pos) a1
  have l2 := mu_rank (E := E) (pos := pos) a2
  rcases ih { b with jobs := ⟨pc, true, pos⟩ :: b.jobs } _ pos l1 hmc (hc _ l1) with ⟨r, b', e, hl, hm⟩ | ⟨e, v', hl, hg⟩
  ·dsimp only at e hm
   exact .inl ⟨r, b', by rw [e]; rfl, hl, hm⟩
  ·dsimp only at e hl hg
   have hl2 : Leads E ({ jobs := ⟨pc, true, pos⟩ :: b.jobs, vis := b.vis, cap := b.cap, mcap := b.mcap }, Mode.go (E.prog pc).out pos) ({ b with vis := v' }, .go (E.prog pc).arg pos) := by
    refine hl.trans ⟨1, ?_⟩
    simp [moves, move, h0]
   rcases ih { b with vis := v' } _ pos l2 hmc ((hc _ l2).grown hg) with ⟨r, b', e', hl', hm'⟩ | ⟨e', v'', hl', hg'⟩
   ·dsimp only at e' hm'
    exact .inl ⟨r, b', by rw [e, e']; rfl, hl2.trans hl', hm'⟩
   ·dsimp only at e' hl' hg'
    exact .inr ⟨by rw [e, e']; rfl, v'', hl2.trans hl', hg.trans hg'⟩
 ·simp only [h0, if_false]
  by_cases h2 : (E.prog pc).op = 2
  ·simp only [h2, if_true]
   have l1 := mu_rank (E := E) (pos := pos) (h.free pc (.inl h2))
   by_cases ha : (E.prog pc).arg < b.cap.length
   ·simp only [ha, if_true]
    rcases ih { b with jobs := ⟨pc, true, b.cap.getD (E.prog pc).arg 0⟩ :: b.jobs, cap := b.cap.set (E.prog pc).arg pos } _ pos l1 (by simpa using hmc) (hc _ l1) with ⟨r, b', e, hl, hm⟩ | ⟨e, v', hl, hg⟩
    ·dsimp only at e hm
     exact .inl ⟨r, b', e, hl, by simpa using hm⟩
    ·dsimp only at e hl hg
     refine .inr ⟨e, v', hl.trans ⟨1, ?_⟩, hg⟩
     simp only [moves, move, h2]
     simp [set_back]
   ·simp only [ha, if_false]
    rcases ih b _ pos l1 hmc (hc _ l1) with ⟨r, b', e, hl, hm⟩ | ⟨e, v', hl, hg⟩
    ·exact .inl ⟨r, b', e, hl, hm⟩
    ·exact .inr ⟨e, v', hl, hg⟩
  ·simp only [h2, if_false]
   by_cases h3 : (E.prog pc).op = 3
   ·simp only [h3, if_true]
    have l1 := mu_rank (E := E) (pos := pos) (h.free pc (.inr (.inl h3)))
    cases hw : E.ew (E.prog pc).arg pos with
    | true =>
     simp only [if_true]
     exact ih b _ pos l1 hmc (hc _ l1)
    | false =>
     simp only [Bool.false_eq_true, if_false]
     exact .inr ⟨trivial, b.vis, Leads.refl _, Grew.refl _⟩
   ·simp only [h3, if_false]
    by_cases h4 : (E.prog pc).op = 4
    ·simp only [h4, if_true]
     by_cases hz : b.cap.length = 0
     ·simp only [hz, if_true]
      exact .inl ⟨_, b, rfl, Leads.refl _, rfl⟩
     ·simp only [hz, if_false]
      refine .inl ⟨_, _, rfl, Leads.refl _, rfl⟩
    ·simp only [h4, if_false]
     simp only [hf, if_false]
     by_cases h6 : (E.prog pc).op = 6
     ·simp only [h6, if_true]
      have l1 := mu_rank (E := E) (pos := pos) (h.free pc (.inr (.inr h6)))
      exact ih b _ pos l1 hmc (hc _ l1)
     ·simp only [h6, if_false]
      cases ht : E.takes (E.prog pc) (E.st pos).1 with
      | true =>
       simp only [if_true]
       have hp : pos < E.n := by
        rcases Nat.lt_or_ge pos E.n with hp | hp
        ·exact hp
        ·rw [h.ends pos _ hp] at ht; cases ht
       obtain ⟨w1, w2⟩ := h.wide pos hp
       have l1 : E.mu (E.prog pc).out (pos + (E.st pos).2) < E.mu pc pos := mu_place h (by omega) w2
       exact ih b _ _ l1 hmc (hc _ l1)
      | false =>
       simp only [Bool.false_eq_true, if_false]
       exact .inr ⟨trivial, b.vis, Leads.refl _, Grew.refl _⟩

def NoFail (E : Env) : Prop := ∀ pc, (E.prog pc).op ≠ 5

theorem comes_go (h : E.Ok) (hf : NoFail E) : ∀ (m : Nat) (b : BS) (pc pos : Nat), E.mu pc pos ≤ m → b.mcap.length = b.cap.length → Clean E b.vis (E.mu pc pos) → Comes E (b, .go pc pos) b pc pos := by
 intro m
 induction m using Nat.strongRecOn with
 | _ m ih =>
  intro b pc pos hm hmc hcl
  cases hv : b.vis pc pos with
  | true =>
   refine .inr ⟨(dead_iff h _ _ _).1 (hcl pc pos hv (Nat.le_refl _)), b.vis, ⟨1, ?_⟩, Grew.refl _⟩
   simp [moves, move, hv]
  | false =>
   have hstep : move E (b, .go pc pos) = enter E { b with vis := mark b.vis pc pos } pc pos := by simp [move, hv]
   have := comes_enter h (b := { b with vis := mark b.vis pc pos }) (hf pc) hmc
    (fun b' pc' pos' hlt hmc' hcl' => ih _ (by omega) b' pc' pos' (Nat.le_refl _) hmc' hcl')
    (fun m' hm' => Clean.marked hcl hm')
   rcases this with ⟨r, b', e, hl, hmm⟩ | ⟨e, v', hl, hg⟩
   ·exact .inl ⟨r, b', e, .step (by rw [hstep]; exact hl), hmm⟩
   ·dsimp only at e hl hg
    refine .inr ⟨e, v', .step (by rw [hstep]; exact hl), (Grew.marked ((dead_iff h _ _ _).2 e)).trans hg⟩

end Env
end Go.Rx
namespace Go.Rx
namespace Env
variable {E : Env}

abbrev Entry := Nat × Option (List Int)

def pcs (q : List Entry) : List Nat := q.map (·.1)

def val (E : Env) (p : Nat) : List Entry → Option (List Int)
 | [] => none
 | (_, none) :: r => val E p r
 | (pc, some c) :: r => (res E pc p c).or (val E p r)

theorem val_append (p : Nat) (q r : List Entry) : val E p (q ++ r) = (val E p q).or (val E p r) := by
 induction q with
 | nil => rfl
 | cons e q ih =>
  obtain ⟨pc, c⟩ := e
  cases c with
  | none => exact ih
  | some c => simp only [List.cons_append, val, ih, Option.or_assoc]

def holds (o : Nat) : Bool := o == 4 || decide (7 ≤ o)

def addF (E : Env) (p : Nat) : Nat → List Entry → Nat → List Int → List Entry
 | 0, q, _, _ => q
 | k + 1, q, pc, c =>
  if pc = 0 ∨ pc ∈ pcs q then q
  else
   let i := E.prog pc
   if i.op = 0 then addF E p k (addF E p k (q ++ [(pc, none)]) i.out c) i.arg c
   else if i.op = 2 then addF E p k (q ++ [(pc, none)]) i.out (if i.arg < c.length then c.set i.arg p else c)
   else if i.op = 3 then if E.ew i.arg p then addF E p k (q ++ [(pc, none)]) i.out c else q ++ [(pc, none)]
   else if i.op = 5 then q ++ [(pc, none)]
   else if i.op = 6 then addF E p k (q ++ [(pc, none)]) i.out c
   else q ++ [(pc, some c)]

def Met (E : Env) (p : Nat) (q : List Entry) (m : Nat) : Prop := ∀ pc, pc ∈ pcs q → E.rank pc ≤ m → (res E pc p []).isSome = true → (val E p q).isSome = true

theorem some_iff (h : E.Ok) (pc p : Nat) (c c' : List Int) : (res E pc p c).isSome = (res E pc p c').isSome := res_some h _ pc p c c' (Nat.le_refl _)

theorem or_of_some {α : Type} {a b : Option α} (h : b.isSome = true → a.isSome = true) : a.or b = a := by
 cases a with
 | some x => rfl
 | none => cases b with
  | none => rfl
  | some y => cases h rfl

theorem isSome_or {α : Type} {a b : Option α} (h : a.isSome = true) : (a.or b).isSome = true := by cases a <;> simp_all

def ZeroDead (E : Env) : Prop := ∀ p c, res E 0 p c = none

theorem addF_spec (h : E.Ok) (hz : ZeroDead E) (p : Nat) : ∀ (k : Nat) (q : List Entry) (pc : Nat) (c : List Int), E.rank pc < k → Met E p q (E.rank pc) →
  val E p (addF E p k q pc c) = (val E p q).or (res E pc p c) ∧
  (∀ a, a ∈ pcs q → a ∈ pcs (addF E p k q pc c)) ∧
  (∀ a, a ∈ pcs (addF E p k q pc c) → a ∉ pcs q → (res E a p []).isSome = true → (val E p (addF E p k q pc c)).isSome = true) := by
 intro k
 induction k with
 | zero => intro q pc c hk; omega
 | succ k ih =>
  intro q pc c hk hm
  unfold addF
  by_cases h0 : pc = 0 ∨ pc ∈ pcs q
  ·rw [if_pos h0]
   refine ⟨?_, fun a ha => ha, fun a ha hn => absurd ha hn⟩
   rcases h0 with rfl | h0
   ·rw [hz]; exact (Option.or_none).symm
   ·exact (or_of_some fun hs => hm pc h0 (Nat.le_refl _) (by rw [some_iff h pc p [] c]; exact hs)).symm
  ·rw [if_neg h0]
   have hnin : pc ∉ pcs q := fun hh => h0 (.inr hh)
   have q1v : val E p (q ++ [(pc, none)]) = val E p q := by rw [val_append]; exact Option.or_none
   have q1p : ∀ a, a ∈ pcs (q ++ [(pc, none)]) ↔ a ∈ pcs q ∨ a = pc := fun a => by simp [pcs]
   have q1m : ∀ m, m < E.rank pc → Met E p (q ++ [(pc, none)]) m := by
    intro m hlt a ha hr hs
    rw [q1v]
    rcases (q1p a).1 ha with ha | rfl
    ·exact hm a ha (by omega) hs
    ·omega
   -- one way on
   have one : ∀ (pc' : Nat) (c' : List Int), E.rank pc' < E.rank pc → res E pc p c = res E pc' p c' →
     val E p (addF E p k (q ++ [(pc, none)]) pc' c') = (val E p q).or (res E pc p c) ∧ (∀ a, a ∈ pcs q → a ∈ pcs (addF E p k (q ++ [(pc, none)]) pc' c')) ∧
     (∀ a, a ∈ pcs (addF E p k (q ++ [(pc, none)]) pc' c') → a ∉ pcs q → (res E a p []).isSome = true → (val E p (addF E p k (q ++ [(pc, none)]) pc' c')).isSome = true) := by
    intro pc' c' hlt he
    obtain ⟨v1, s1, n1⟩ := ih (q ++ [(pc, none)]) pc' c' (by omega) (q1m _ hlt)
    rw [q1v, ← he] at v1
    refine ⟨v1, fun a ha => s1 a ((q1p a).2 (.inl ha)), fun a ha hn hs => ?_⟩
    by_cases hap : a = pc
    ·subst hap
     rw [v1]
     have : (res E a p c).isSome = true := by rw [some_iff h a p c []]; exact hs
     cases hv : val E p q with
     | none => simpa using this
     | some x => rfl
    ·exact n1 a ha (fun hh => (q1p a).1 hh |>.elim hn hap) hs
   -- no way on: the entry alone
   have stop : ∀ e : Option (List Int), val E p [(pc, e)] = res E pc p c →
     val E p (q ++ [(pc, e)]) = (val E p q).or (res E pc p c) ∧ (∀ a, a ∈ pcs q → a ∈ pcs (q ++ [(pc, e)])) ∧
     (∀ a, a ∈ pcs (q ++ [(pc, e)]) → a ∉ pcs q → (res E a p []).isSome = true → (val E p (q ++ [(pc, e)])).isSome = true) := by
    intro e he
    have hv : val E p (q ++ [(pc, e)]) = (val E p q).or (res E pc p c) := by rw [val_append, he]
    refine ⟨hv, fun a ha => by simp [pcs] at ha ⊢; exact .inl ha, fun a ha hn hs => ?_⟩
    have hap : a = pc := by
     simp [pcs] at ha hn
     rcases ha with ⟨x, hx⟩ | rfl
     ·exact absurd hx (hn x)
     ·rfl
    subst hap
    rw [hv]
    have : (res E a p c).isSome = true := by rw [some_iff h a p c []]; exact hs
    cases hq : val E p q with
    | none => simpa using this
    | some x => rfl
   have heq := res_eq h pc p c
   by_cases o0 : (E.prog pc).op = 0
   ·simp only [o0, if_true] at heq ⊢
    obtain ⟨a1, a2⟩ := h.alt pc o0
    obtain ⟨v1, s1, n1⟩ := ih (q ++ [(pc, none)]) (E.prog pc).out c (by omega) (q1m _ a1)
    rw [q1v] at v1
    have m2 : Met E p (addF E p k (q ++ [(pc, none)]) (E.prog pc).out c) (E.rank (E.prog pc).arg) := by
     intro a ha hr hs
     by_cases hq : a ∈ pcs q
     ·rw [v1]; exact isSome_or (hm a hq (by omega) hs)
     ·by_cases hap : a = pc
      ·subst hap; omega
      ·exact n1 a ha (fun hh => (q1p a).1 hh |>.elim hq hap) hs
    obtain ⟨v2, s2, n2⟩ := ih _ (E.prog pc).arg c (by omega) m2
    rw [v1, Option.or_assoc, ← heq] at v2
    refine ⟨v2, fun a ha => s2 a (s1 a ((q1p a).2 (.inl ha))), fun a ha hn hs => ?_⟩
    by_cases hap : a = pc
    ·subst hap
     rw [v2]
     have : (res E a p c).isSome = true := by rw [some_iff h a p c []]; exact hs
     cases hq : val E p q with
     | none => simpa using this
     | some x => rfl
    ·by_cases hm1 : a ∈ pcs (addF E p k (q ++ [(pc, none)]) (E.prog pc).out c)
     ·have := n1 a hm1 (fun hh => (q1p a).1 hh |>.elim hn hap) hs
      rw [v1] at this
      rw [v2]
      rw [heq]
      rw [← Option.or_assoc]
      exact isSome_or this
     ·exact n2 a ha hm1 hs
   ·simp only [o0, if_false] at heq ⊢
    by_cases o2 : (E.prog pc).op = 2
    ·simp only [o2, if_true] at heq ⊢
     exact one _ _ (h.free pc (.inl o2)) heq
    ·simp only [o2, if_false] at heq ⊢
     by_cases o3 : (E.prog pc).op = 3
     ·simp only [o3, if_true] at heq ⊢
      cases hw : E.ew (E.prog pc).arg p with
      | true =>
       simp only [hw, if_true] at heq ⊢
       exact one _ _ (h.free pc (.inr (.inl o3))) heq
      | false =>
       simp only [hw, Bool.false_eq_true, if_false] at heq ⊢
       exact stop none (by rw [heq]; rfl)
     ·simp only [o3, if_false] at heq ⊢
      by_cases o5 : (E.prog pc).op = 5
      ·have o4 : ¬ (E.prog pc).op = 4 := by omega
       simp only [o4, o5, if_true, if_false] at heq ⊢
       exact stop none (by rw [heq]; rfl)
      ·simp only [o5, if_false]
       by_cases o6 : (E.prog pc).op = 6
       ·have o4 : ¬ (E.prog pc).op = 4 := by omega
        simp only [o4, o5, o6, if_true, if_false] at heq ⊢
        exact one _ _ (h.free pc (.inr (.inr o6))) heq
       ·simp only [o6, if_false]
        exact stop (some c) (by show (res E pc p c).or none = _; exact Option.or_none)

def MetAll (E : Env) (p : Nat) (q : List Entry) : Prop := ∀ m, Met E p q m

theorem metAll_nil (p : Nat) : MetAll E p [] := fun _ pc h => by cases h

theorem addF_all (h : E.Ok) (hz : ZeroDead E) (p k : Nat) (q : List Entry) (pc : Nat) (c : List Int) (hk : E.top ≤ k) (hm : MetAll E p q) :
  val E p (addF E p k q pc c) = (val E p q).or (res E pc p c) ∧ MetAll E p (addF E p k q pc c) := by
 have hr := h.rank_lt pc
 obtain ⟨v, s, n⟩ := addF_spec h hz p k q pc c (by omega) (hm _)
 refine ⟨v, fun m a ha _ hs => ?_⟩
 by_cases hq : a ∈ pcs q
 ·rw [v]; exact isSome_or (hm (E.rank a) a hq (Nat.le_refl _) hs)
 ·exact n a ha hq hs

def stepF (E : Env) (p k : Nat) : List Entry → List Entry → Option (List Int) → List Entry × Option (List Int)
 | [], n, m => (n, m)
 | (_, none) :: r, n, m => stepF E p k r n m
 | (pc, some c) :: r, n, m =>
  if (E.prog pc).op = 4 then (n, some (if 1 < c.length then c.set 1 p else c))
  else if E.takes (E.prog pc) (E.st p).1 then stepF E p k r (addF E (p + (E.st p).2) k n (E.prog pc).out c) m
  else stepF E p k r n m

def Waits (E : Env) (q : List Entry) : Prop := ∀ pc c, (pc, some c) ∈ q → (E.prog pc).op = 4 ∨ 7 ≤ (E.prog pc).op

theorem addF_waits (h : E.Ok) (p : Nat) : ∀ (k : Nat) (q : List Entry) (pc : Nat) (c : List Int), Waits E q → Waits E (addF E p k q pc c) := by
 intro k
 induction k with
 | zero => intro q pc c hw; exact hw
 | succ k ih =>
  intro q pc c hw
  have hw1 : Waits E (q ++ [(pc, none)]) := fun a d hm => by
   rcases List.mem_append.1 hm with hm | hm
   ·exact hw a d hm
   ·simp at hm
  unfold addF
  split
  ·exact hw
  ·dsimp only
   split
   ·exact ih _ _ _ (ih _ _ _ hw1)
   ·split
    ·exact ih _ _ _ hw1
    ·split
     ·split
      ·exact ih _ _ _ hw1
      ·exact hw1
     ·split
      ·exact hw1
      ·split
       ·exact ih _ _ _ hw1
       ·rename_i o0 o2 o3 o5 o6
        intro a d hm
        rcases List.mem_append.1 hm with hm | hm
        ·exact hw a d hm
        ·simp at hm
         obtain ⟨rfl, rfl⟩ := hm
         have := h.ops a
         omega

theorem stepF_spec (h : E.Ok) (hz : ZeroDead E) (p k : Nat) (hk : E.top ≤ k) : ∀ (r n : List Entry) (m : Option (List Int)), Waits E r → Waits E n → MetAll E (p + (E.st p).2) n →
  (val E (p + (E.st p).2) (stepF E p k r n m).1).or (stepF E p k r n m).2 = (val E (p + (E.st p).2) n).or ((val E p r).or m) ∧
  Waits E (stepF E p k r n m).1 ∧ MetAll E (p + (E.st p).2) (stepF E p k r n m).1
 | [], n, m, _, hn, ha => ⟨rfl, hn, ha⟩
 | (pc, none) :: r, n, m, hr, hn, ha => stepF_spec h hz p k hk r n m (fun a d hm => hr a d (List.mem_cons_of_mem _ hm)) hn ha
 | (pc, some c) :: r, n, m, hr, hn, ha => by
  have hr' : Waits E r := fun a d hm => hr a d (List.mem_cons_of_mem _ hm)
  have hop := hr pc c (List.mem_cons_self ..)
  have heq := res_eq h pc p c
  unfold stepF
  by_cases o4 : (E.prog pc).op = 4
  ·rw [if_pos o4]
   have o0 : ¬ (E.prog pc).op = 0 := by omega
   have o2 : ¬ (E.prog pc).op = 2 := by omega
   have o3 : ¬ (E.prog pc).op = 3 := by omega
   simp only [o0, o2, o3, o4, if_true, if_false] at heq
   refine ⟨?_, hn, ha⟩
   simp only [val, heq]
   rfl
  ·rw [if_neg o4]
   have h7 : 7 ≤ (E.prog pc).op := hop.resolve_left o4
   have o0 : ¬ (E.prog pc).op = 0 := by omega
   have o2 : ¬ (E.prog pc).op = 2 := by omega
   have o3 : ¬ (E.prog pc).op = 3 := by omega
   have o5 : ¬ (E.prog pc).op = 5 := by omega
   have o6 : ¬ (E.prog pc).op = 6 := by omega
   simp only [o0, o2, o3, o4, o5, o6, if_false] at heq
   cases ht : E.takes (E.prog pc) (E.st p).1 with
   | true =>
    simp only [ht, if_true] at heq ⊢
    obtain ⟨v, a⟩ := addF_all h hz (p + (E.st p).2) k n (E.prog pc).out c hk ha
    obtain ⟨v2, w2, a2⟩ := stepF_spec h hz p k hk r _ m hr' (addF_waits h _ k n _ c hn) a
    refine ⟨?_, w2, a2⟩
    rw [v2, v]
    simp only [val, heq, Option.or_assoc]
   | false =>
    simp only [ht, Bool.false_eq_true, if_false] at heq ⊢
    obtain ⟨v2, w2, a2⟩ := stepF_spec h hz p k hk r n m hr' hn ha
    refine ⟨?_, w2, a2⟩
    rw [v2]
    simp only [val, heq, Option.none_or]

def runF (E : Env) (start k : Nat) : Nat → Nat → List Entry → Option (List Int) → List Int → Option (List Int)
 | 0, _, _, m, _ => m
 | f + 1, p, q, m, c0 =>
  if q = [] ∧ (p ≠ 0 ∨ m.isSome = true) then m
  else
   let q1 := if m.isSome = true then q else addF E p k q start (if 0 < c0.length then c0.set 0 p else c0)
   let (n, m1) := stepF E p k q1 [] m
   if E.n ≤ p then m1 else runF E start k f (p + (E.st p).2) n m1 c0

end Env
end Go.Rx
namespace Go.Rx
namespace Env

inductive Way (E : Env) : Nat → Nat → List Int → List Int → Prop
 | alt1 {pc pos c r} (h : (E.prog pc).op = 0) (g : Way E (E.prog pc).out pos c r) : Way E pc pos c r
 | alt2 {pc pos c r} (h : (E.prog pc).op = 0) (g : Way E (E.prog pc).arg pos c r) : Way E pc pos c r
 | cap {pc pos c r} (h : (E.prog pc).op = 2) (g : Way E (E.prog pc).out pos (if (E.prog pc).arg < c.length then c.set (E.prog pc).arg pos else c) r) : Way E pc pos c r
 | empty {pc pos c r} (h : (E.prog pc).op = 3) (hw : E.ew (E.prog pc).arg pos = true) (g : Way E (E.prog pc).out pos c r) : Way E pc pos c r
 | done {pc pos c} (h : (E.prog pc).op = 4) : Way E pc pos c (if 1 < c.length then c.set 1 (pos : Int) else c)
 | nop {pc pos c r} (h : (E.prog pc).op = 6) (g : Way E (E.prog pc).out pos c r) : Way E pc pos c r
 | rune {pc pos c r} (h : 7 ≤ (E.prog pc).op) (ht : E.takes (E.prog pc) (E.st pos).1 = true) (g : Way E (E.prog pc).out (pos + (E.st pos).2) c r) : Way E pc pos c r

variable {E : Env}

theorem res_way (h : E.Ok) : ∀ (m pc pos : Nat) (c r : List Int), E.mu pc pos ≤ m → res E pc pos c = some r → Way E pc pos c r := by
 intro m
 induction m using Nat.strongRecOn with
 | _ m ih =>
  intro pc pos c r hm hr
  rw [res_eq h] at hr
  have hops := h.ops pc
  have go : ∀ (pc' pos' : Nat) (d : List Int), E.mu pc' pos' < E.mu pc pos → res E pc' pos' d = some r → Way E pc' pos' d r := fun pc' pos' d hlt hd =>
   ih (E.mu pc' pos') (by omega) pc' pos' d r (Nat.le_refl _) hd
  by_cases h0 : (E.prog pc).op = 0
  ·simp only [h0, if_true] at hr
   obtain ⟨a1, a2⟩ := h.alt pc h0
   cases ho : res E (E.prog pc).out pos c with
   | some x =>
    rw [ho] at hr
    have : x = r := by simpa using hr
    subst this
    exact .alt1 h0 (go _ _ _ (mu_rank a1) ho)
   | none =>
    rw [ho] at hr
    exact .alt2 h0 (go _ _ _ (mu_rank a2) (by simpa using hr))
  ·simp only [h0, if_false] at hr
   by_cases h2 : (E.prog pc).op = 2
   ·simp only [h2, if_true] at hr
    exact .cap h2 (go _ _ _ (mu_rank (h.free pc (.inl h2))) hr)
   ·simp only [h2, if_false] at hr
    by_cases h3 : (E.prog pc).op = 3
    ·simp only [h3, if_true] at hr
     cases hw : E.ew (E.prog pc).arg pos with
     | true =>
      simp only [hw, if_true] at hr
      exact .empty h3 hw (go _ _ _ (mu_rank (h.free pc (.inr (.inl h3)))) hr)
     | false => simp [hw] at hr
    ·simp only [h3, if_false] at hr
     by_cases h4 : (E.prog pc).op = 4
     ·simp only [h4, if_true] at hr
      have : (if 1 < c.length then c.set 1 (pos : Int) else c) = r := by simpa using hr
      rw [← this]
      exact .done h4
     ·simp only [h4, if_false] at hr
      by_cases h5 : (E.prog pc).op = 5
      ·simp only [h5, if_true] at hr; cases hr
      ·simp only [h5, if_false] at hr
       by_cases h6 : (E.prog pc).op = 6
       ·simp only [h6, if_true] at hr
        exact .nop h6 (go _ _ _ (mu_rank (h.free pc (.inr (.inr h6)))) hr)
       ·simp only [h6, if_false] at hr
        cases ht : E.takes (E.prog pc) (E.st pos).1 with
        | true =>
         simp only [ht, if_true] at hr
         have hp : pos < E.n := by
          rcases Nat.lt_or_ge pos E.n with hp | hp
          ·exact hp
          ·rw [h.ends pos _ hp] at ht; cases ht
         obtain ⟨w1, w2⟩ := h.wide pos hp
         exact .rune (by omega) ht (go _ _ _ (mu_place h (by omega) w2) hr)
        | false => simp [ht] at hr

theorem way_res (h : E.Ok) {pc pos : Nat} {c r : List Int} (g : Way E pc pos c r) : (res E pc pos c).isSome = true := by
 induction g with
 | alt1 h0 _ ih =>
  rw [res_eq h]; simp only [h0, if_true, Option.isSome_or, ih, Bool.true_or]
 | alt2 h0 _ ih =>
  rw [res_eq h]; simp only [h0, if_true, Option.isSome_or, ih, Bool.or_true]
 | cap h2 _ ih =>
  rw [res_eq h]; simp only [h2, show ¬ (2 : Nat) = 0 by decide, if_false, if_true]; exact ih
 | empty h3 hw _ ih =>
  rw [res_eq h]; simp only [h3, hw, show ¬ (3 : Nat) = 0 by decide, show ¬ (3 : Nat) = 2 by decide, if_false, if_true]; exact ih
 | done h4 =>
  rw [res_eq h]; simp only [h4, show ¬ (4 : Nat) = 0 by decide, show ¬ (4 : Nat) = 2 by decide, show ¬ (4 : Nat) = 3 by decide, if_false, if_true]; rfl
 | nop h6 _ ih =>
  rw [res_eq h]; simp only [h6, show ¬ (6 : Nat) = 0 by decide, show ¬ (6 : Nat) = 2 by decide, show ¬ (6 : Nat) = 3 by decide, show ¬ (6 : Nat) = 4 by decide, show ¬ (6 : Nat) = 5 by decide, if_false, if_true]; exact ih
 | @rune pc pos c r h7 ht _ ih =>
  rw [res_eq h]
  have o0 : ¬ (E.prog pc).op = 0 := by omega
  have o2 : ¬ (E.prog pc).op = 2 := by omega
  have o3 : ¬ (E.prog pc).op = 3 := by omega
  have o4 : ¬ (E.prog pc).op = 4 := by omega
  have o5 : ¬ (E.prog pc).op = 5 := by omega
  have o6 : ¬ (E.prog pc).op = 6 := by omega
  simp only [o0, o2, o3, o4, o5, o6, ht, if_false, if_true]; exact ih

theorem res_only (h : E.Ok) {pc pos : Nat} {c r : List Int} (g : Way E pc pos c r) (hu : ∀ r', Way E pc pos c r' → r' = r) : res E pc pos c = some r := by
 have hs := way_res h g
 cases hr : res E pc pos c with
 | none => rw [hr] at hs; cases hs
 | some x => rw [hu x (res_way h _ _ _ _ _ (Nat.le_refl _) hr)]


structure Over (E : Env) (t : List Nat) : Prop where
 n : E.n = t.length
 st : ∀ p, p < t.length → E.st p = ((t.getD p 0 : Int), 1)
 past : ∀ p pc, t.length ≤ p → E.takes (E.prog pc) (E.st p).1 = false

def Frag (E : Env) (t : List Nat) (a : Nat) (L : List Nat → Prop) (b : Nat) : Prop :=
 ∀ pos c r, Way E a pos c r ↔ ∃ v w, t.drop pos = v ++ w ∧ L v ∧ Way E b (pos + v.length) c r

def One (p : Nat → Bool) (v : List Nat) : Prop := ∃ x, v = [x] ∧ p x = true
def Cat (L M : List Nat → Prop) (v : List Nat) : Prop := ∃ a b, v = a ++ b ∧ L a ∧ M b
def Alt (L M : List Nat → Prop) (v : List Nat) : Prop := L v ∨ M v
def Nil (v : List Nat) : Prop := v = []
inductive Star (L : List Nat → Prop) : List Nat → Prop
 | nil : Star L []
 | cons {a b} (h : L a) (g : Star L b) : Star L (a ++ b)
def Plus (L : List Nat → Prop) : List Nat → Prop := Cat L (Star L)

theorem getD_get {t : List Nat} {i : Nat} (h : i < t.length) : t.getD i 0 = t[i] := by
 rw [List.getD_eq_getElem?_getD, List.getElem?_eq_getElem h]; rfl

theorem frag_one {t : List Nat} (ho : Over E t) {a b : Nat} {p : Nat → Bool} (h7 : 7 ≤ (E.prog a).op) (hb : (E.prog a).out = b) (ht : ∀ x : Nat, x < 128 → E.takes (E.prog a) (x : Int) = p x) (hx : ∀ x ∈ t, x < 128) : Frag E t a (One p) b := by
 intro pos c r
 constructor
 ·intro g
  cases g with
  | rune _ htk g =>
   rcases Nat.lt_or_ge pos t.length with hp | hp
   ·rw [ho.st pos hp] at htk g
    have hd : t.drop pos = t.getD pos 0 :: t.drop (pos + 1) := by
     rw [getD_get hp, List.drop_eq_getElem_cons hp]
    have hm : t.getD pos 0 < 128 := hx _ (by rw [getD_get hp]; exact List.getElem_mem hp)
    refine ⟨[t.getD pos 0], t.drop (pos + 1), hd, ⟨_, rfl, ?_⟩, ?_⟩
    ·rw [← ht _ hm]; exact htk
    ·rw [← hb]; exact g
   ·rw [ho.past pos _ hp] at htk; cases htk
  | alt1 h0 _ => omega
  | alt2 h0 _ => omega
  | cap h0 _ => omega
  | empty h0 _ _ => omega
  | done h0 => omega
  | nop h0 _ => omega
 ·rintro ⟨v, w, hd, ⟨x, rfl, hp⟩, g⟩
  have hlt : pos < t.length := by
   rcases Nat.lt_or_ge pos t.length with hp | hp
   ·exact hp
   ·rw [List.drop_of_length_le hp] at hd; simp at hd
  have hd' : t.drop pos = t.getD pos 0 :: t.drop (pos + 1) := by
   rw [getD_get hlt, List.drop_eq_getElem_cons hlt]
  rw [hd'] at hd
  have hxx : t.getD pos 0 = x := by simpa using (List.cons.inj hd).1
  have hm : t.getD pos 0 < 128 := hx _ (by rw [getD_get hlt]; exact List.getElem_mem hlt)
  refine .rune h7 ?_ ?_
  ·rw [ho.st pos hlt, ht _ hm, hxx]; exact hp
  ·rw [ho.st pos hlt, hb]; exact g

theorem frag_nop {t : List Nat} {a b : Nat} (h6 : (E.prog a).op = 6) (hb : (E.prog a).out = b) : Frag E t a Nil b := by
 intro pos c r
 constructor
 ·intro g
  cases g with
  | nop _ g => exact ⟨[], t.drop pos, rfl, rfl, by rw [← hb]; exact g⟩
  | alt1 h0 _ => omega
  | alt2 h0 _ => omega
  | cap h0 _ => omega
  | empty h0 _ _ => omega
  | done h0 => omega
  | rune h0 _ _ => omega
 ·rintro ⟨v, w, _, rfl, g⟩
  exact .nop h6 (by rw [hb]; exact g)

theorem frag_nil {t : List Nat} (a : Nat) : Frag E t a Nil a := fun pos c r =>
 ⟨fun g => ⟨[], t.drop pos, rfl, rfl, g⟩, by rintro ⟨v, w, _, rfl, g⟩; exact g⟩

theorem drop_split {t : List Nat} {pos : Nat} {v w : List Nat} (h : t.drop pos = v ++ w) : t.drop (pos + v.length) = w := by
 rw [← List.drop_drop, h, List.drop_left]

theorem frag_cat {t : List Nat} {a m b : Nat} {L M : List Nat → Prop} (h : Frag E t a L m) (g : Frag E t m M b) : Frag E t a (Cat L M) b := by
 intro pos c r
 rw [h pos c r]
 constructor
 ·rintro ⟨v, w, hd, hL, hw⟩
  obtain ⟨v', w', hd', hM, hw'⟩ := (g _ _ _).1 hw
  rw [drop_split hd] at hd'
  exact ⟨v ++ v', w', by rw [hd, hd', List.append_assoc], ⟨v, v', rfl, hL, hM⟩, by rw [List.length_append, ← Nat.add_assoc]; exact hw'⟩
 ·rintro ⟨v, w, hd, ⟨x, y, rfl, hL, hM⟩, hw⟩
  rw [List.append_assoc] at hd
  refine ⟨x, y ++ w, hd, hL, (g _ _ _).2 ⟨y, w, drop_split hd, hM, ?_⟩⟩
  rw [List.length_append, ← Nat.add_assoc] at hw
  exact hw

theorem way_alt {a : Nat} (h0 : (E.prog a).op = 0) (pos : Nat) (c r : List Int) : Way E a pos c r ↔ Way E (E.prog a).out pos c r ∨ Way E (E.prog a).arg pos c r := by
 constructor
 ·intro g
  cases g with
  | alt1 _ g => exact .inl g
  | alt2 _ g => exact .inr g
  | cap h _ => omega
  | empty h _ _ => omega
  | done h => omega
  | nop h _ => omega
  | rune h _ _ => omega
 ·rintro (g | g)
  ·exact .alt1 h0 g
  ·exact .alt2 h0 g

theorem way_cap {a : Nat} (h2 : (E.prog a).op = 2) (pos : Nat) (c r : List Int) : Way E a pos c r ↔ Way E (E.prog a).out pos (if (E.prog a).arg < c.length then c.set (E.prog a).arg pos else c) r := by
 constructor
 ·intro g
  cases g with
  | cap _ g => exact g
  | alt1 h _ => omega
  | alt2 h _ => omega
  | empty h _ _ => omega
  | done h => omega
  | nop h _ => omega
  | rune h _ _ => omega
 ·exact .cap h2

theorem way_empty {a : Nat} (h3 : (E.prog a).op = 3) (pos : Nat) (c r : List Int) : Way E a pos c r ↔ E.ew (E.prog a).arg pos = true ∧ Way E (E.prog a).out pos c r := by
 constructor
 ·intro g
  cases g with
  | empty _ hw g => exact ⟨hw, g⟩
  | alt1 h _ => omega
  | alt2 h _ => omega
  | cap h _ => omega
  | done h => omega
  | nop h _ => omega
  | rune h _ _ => omega
 ·rintro ⟨hw, g⟩; exact .empty h3 hw g

theorem way_done {a : Nat} (h4 : (E.prog a).op = 4) (pos : Nat) (c r : List Int) : Way E a pos c r ↔ r = (if 1 < c.length then c.set 1 (pos : Int) else c) := by
 constructor
 ·intro g
  cases g with
  | done _ => rfl
  | alt1 h _ => omega
  | alt2 h _ => omega
  | cap h _ => omega
  | empty h _ _ => omega
  | nop h _ => omega
  | rune h _ _ => omega
 ·rintro rfl; exact .done h4

theorem frag_alt {t : List Nat} {a x y b : Nat} {L M : List Nat → Prop} (h0 : (E.prog a).op = 0) (hx : (E.prog a).out = x) (hy : (E.prog a).arg = y) (h : Frag E t x L b) (g : Frag E t y M b) : Frag E t a (Alt L M) b := by
 intro pos c r
 rw [way_alt h0, hx, hy, h pos c r, g pos c r]
 constructor
 ·rintro (⟨v, w, hd, hL, hw⟩ | ⟨v, w, hd, hL, hw⟩)
  ·exact ⟨v, w, hd, .inl hL, hw⟩
  ·exact ⟨v, w, hd, .inr hL, hw⟩
 ·rintro ⟨v, w, hd, hL | hL, hw⟩
  ·exact .inl ⟨v, w, hd, hL, hw⟩
  ·exact .inr ⟨v, w, hd, hL, hw⟩

theorem frag_opt {t : List Nat} {a x b : Nat} {L : List Nat → Prop} (h0 : (E.prog a).op = 0) (hx : (E.prog a).out = x) (hy : (E.prog a).arg = b) (h : Frag E t x L b) : Frag E t a (Alt L Nil) b :=
 frag_alt h0 hx hy h (frag_nil b)

theorem frag_star {t : List Nat} {a m b : Nat} {L : List Nat → Prop} (h0 : (E.prog m).op = 0) (hx : (E.prog m).out = a) (hy : (E.prog m).arg = b) (h : Frag E t a L m) (hne : ∀ v, L v → v ≠ []) : Frag E t m (Star L) b := by
 have key : ∀ (k pos : Nat) (c r : List Int), t.length - pos ≤ k → (Way E m pos c r ↔ ∃ v w, t.drop pos = v ++ w ∧ Star L v ∧ Way E b (pos + v.length) c r) := by
  intro k
  induction k using Nat.strongRecOn with
  | _ k ih =>
   intro pos c r hk
   rw [way_alt h0, hx, hy, h pos c r]
   have small : ∀ (v w : List Nat), t.drop pos = v ++ w → L v → t.length - (pos + v.length) < t.length - pos := by
    intro v w hd hL
    have := hne v hL
    have hl : 0 < v.length := List.length_pos_iff.2 this
    have := congrArg List.length hd
    simp at this
    omega
   constructor
   ·rintro (⟨v, w, hd, hL, hw⟩ | hw)
    ·have hs := small v w hd hL
     obtain ⟨v', w', hd', hM, hw'⟩ := (ih _ (by omega) _ _ _ (Nat.le_refl _)).1 hw
     rw [drop_split hd] at hd'
     exact ⟨v ++ v', w', by rw [hd, hd', List.append_assoc], .cons hL hM, by rw [List.length_append, ← Nat.add_assoc]; exact hw'⟩
    ·exact ⟨[], t.drop pos, rfl, .nil, hw⟩
   ·rintro ⟨v, w, hd, hS, hw⟩
    cases hS with
    | nil => exact .inr hw
    | @cons x y hL hS =>
     rw [List.append_assoc] at hd
     have hs := small x (y ++ w) hd hL
     refine .inl ⟨x, y ++ w, hd, hL, (ih _ (by omega) _ _ _ (Nat.le_refl _)).2 ⟨y, w, drop_split hd, hS, ?_⟩⟩
     rw [List.length_append, ← Nat.add_assoc] at hw
     exact hw
 exact fun pos c r => key _ pos c r (Nat.le_refl _)

theorem Frag.mono {t : List Nat} {a b : Nat} {L M : List Nat → Prop} (h : Frag E t a L b) (g : ∀ v, L v ↔ M v) : Frag E t a M b := by
 intro pos c r
 rw [h pos c r]
 simp only [g]

end Env
end Go.Rx
