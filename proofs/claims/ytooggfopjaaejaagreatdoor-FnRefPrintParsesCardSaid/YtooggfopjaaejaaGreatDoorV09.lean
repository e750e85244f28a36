/-
FnRefPrintParses: the regular expressions, the digest and the reference, part 9 of 25.
-/
import Derived.Test.YtooggfopjaaejaaGreatDoorV04
import Derived.Test.YtooggfopjaaejaaGreatDoorV08
import Derived.Test.YtooggfopjaaejaaGreatDoorV01
import Derived.WalkMore
import Derived.ArgAppend
import Derived.Test.YtooggfopjaaejaaGreatDoorV07
set_option linter.all false
namespace Go.Rx
theorem Env.way_length {E : Env} {pc pos : Nat} {c r : List Int} (g : Env.Way E pc pos c r) : r.length = c.length := by
  induction g with
  | alt1 _ _ ih => exact ih
  | alt2 _ _ ih => exact ih
  | cap _ _ ih => rw [ih]; split <;> simp
  | empty _ _ _ ih => exact ih
  | done _ => split <;> simp
  | nop _ _ ih => exact ih
  | rune _ _ _ ih => exact ih
end Go.Rx
namespace Go.Proofs.YtooggfopjaaejaaGreatDoor
open Go.RowKit Go.Rx

/-- A search over a program and a text. -/
def envAt (pg : Nat → Inst) (s : ByteArray) (rank : Nat → Nat) (top : Nat) : Env where
  prog := pg
  n := s.size
  st := fun p => (runeAt s p, if p < s.size then 1 else 0)
  ew := fun a p => if a = 4 then decide (p = 0) else decide (p = s.size)
  takes := fun i r => if i.op = 7 then classTakes i.rune r else decide (i.rune = [r])
  rank := rank
  top := top

/-- The captures at the begin. -/
def cap0 (nc : Nat) : List Int := (List.replicate nc (-1)).set 0 0

theorem own_base {w : World} {base base' n : Nat} {e : TypeId} {sz : Nat} {v : Value} {xs : List Value} (h : w.ownsRow base e sz v n xs) (hb : base' ≤ base) : w.ownsRow base' e sz v n xs := by
  obtain ⟨h1, h2⟩ := h
  refine ⟨h1, ?_⟩
  rcases h2 with h2 | ⟨g, cap, cur, rfl, hb2, hh, hr⟩
  · exact .inl h2
  · exact .inr ⟨g, cap, cur, rfl, by omega, hh, hr⟩

/-- Ints are put behind nothing, in a row that is too short. -/
theorem int_grow (w : World) {ops : Array Oper} {rest : List Oper} {o : Oper} {a : Act} {Q : Exit → Act → World → Prop} (hgd : o.guard = none) (s x : Operand)
    (ho : o.op = .call { callee := .builtin .append, args := #[s, x], argTypes := #[91, 91] }) (b : Addr) (ca : Nat) (hs : a.eval s = .slice (some b) 0 ca)
    (ad : Addr) (m c : Nat) (news : List Value) (hx : a.eval x = .slice (some ad) m c) (hl : news.length = m)
    (hnews : ∀ j u, news[j]? = some u → w.cell? (ad.add j) = some u) (h1 : ∀ u ∈ news, u.oneCell' = true) (hfull : ca < m) (hn : m < 1000000000)
    (h : ∀ g cap w', w'.ownsRow w.heap.size 3 1 (.slice (some ⟨g, 0, none⟩) m cap) m news → Chg [] w w' → wpList Tryz.prog ops Q rest (a.put o.dst (.slice (some ⟨g, 0, none⟩) m cap)) w') :
    wpList Tryz.prog ops Q (o :: rest) a w := by
  obtain ⟨i, hi, hz0, hz1, hz2⟩ := info_parts int_info
  refine wpList_append_grows w hgd s x 91 ho 3 i _ 1 8 Tryz.underlying91 hi hz0 hz1 hz2 rfl (by omega) (some b) 0 ca [] hs (fun h => by cases h) rfl (fun b _ j u hj => by simp at hj) ad m c news hx (by simpa using hl) hnews h1 (by omega) (by simp [maxLen]; omega) (by omega) ?_
  intro v' w' h2 h3
  rw [Nat.zero_add, List.nil_append] at h2
  obtain ⟨k1, k2⟩ := id h2
  rcases k2 with ⟨_, k2⟩ | ⟨g, cap, cur, rfl, _⟩
  · omega
  · exact h g cap w' h2 ⟨h3.os, h3.tape, h3.output, h3.size, fun k hk _ => h3.block k hk (by simp)⟩

theorem moves_pop {E : Env} {b b' : Env.BS} {pc pos k : Nat} (hj : b.jobs = []) (hv : b.vis pc pos = false) (h : Env.moves E k (b, .go pc pos) = (b', .fin true)) :
    Env.moves E k ({ b with jobs := [⟨pc, false, pos⟩], vis := Env.mark b.vis pc pos }, .pop) = (b', .fin true) := by
  cases k with
  | zero => simp [Env.moves] at h
  | succ k =>
    rw [Env.moves] at h ⊢
    rw [← h]
    congr 1
    simp only [Env.move, hv, Bool.false_eq_true, if_false, Int.toNat_natCast]
    rw [← hj]

/-- The layout that a reset gives. -/
def layOf (N R PR I np : Nat) (pg : Nat → Inst) (B C MC V en nw nc : Nat) (s : ByteArray) (w0 : World) : Lay :=
  { N := N, R := R, PR := PR, I := I, np := np, pg := pg, B := B, C := C, MC := MC, V := V, en := en, nw := nw, nc := nc, s := s, tB := 152, tC := 3, tM := 3, tV := 84, w0 := w0 }

def bs0 (nc : Nat) : Env.BS := { jobs := [], vis := fun _ _ => false, cap := List.replicate nc (-1), mcap := List.replicate nc (-1) }

theorem laid_mem {N R PR I np B C MC V J en nc nw : Nat} {pg : Nat → Inst} {s : ByteArray} {w w2 w3 : World} (hl : Laid w2 w3 B C MC V J en nc nw s 152) (hP : ProgAt w3 N R PR I np pg) (hb : Below N w w3) (hBN : N ≤ B) (hBl : B < w2.heap.size)
    (hnw : np * (en + 1) ≤ nw * 32) (hnw2 : nw ≤ 8192) : BtMem (layOf N R PR I np pg B C MC V en nw nc s w) (bs0 nc) w3 := by
  obtain ⟨n1, n2, n3, n4⟩ := hl.new
  obtain ⟨a1, a2, a3, a4, a5, a6⟩ := hl.apart
  exact
  { prog := hP
    below := hb
    jobs := ⟨J, 256, hl.b, ⟨rfl, .inr ⟨J, 256, _, rfl, by show N ≤ J; omega, hl.j, by simp [bs0], by simp [maxLen], by simp [madeCells], by simp [bs0, jobsCells]⟩⟩, by show J ≠ B; omega, Ne.symm a3, Ne.symm a5, Ne.symm a6, hl.j.lt⟩
    vis := ⟨List.replicate 8192 0, VisRep.zero _ _ _ _ hnw hnw2, by
      have h := hl.v
      rw [made_one] at h
      unfold wordCells
      rw [List.map_replicate]
      exact h⟩
    cap := by
      have h := hl.c
      unfold intCells bs0
      rw [List.map_replicate]
      exact h
    mcap := by
      have h := hl.m
      unfold intCells bs0
      rw [List.map_replicate]
      exact h }

theorem laid_apart {N R PR I np B C MC V J en nc nw : Nat} {pg : Nat → Inst} {s : ByteArray} {w w2 w3 : World} (hl : Laid w2 w3 B C MC V J en nc nw s 152) (hBN : N ≤ B) (hBl : B < w2.heap.size) :
    Apart (layOf N R PR I np pg B C MC V en nw nc s w) := by
  obtain ⟨n1, n2, n3, n4⟩ := hl.new
  obtain ⟨a1, a2, a3, a4, a5, a6⟩ := hl.apart
  exact
  { B := hBN
    C := by show N ≤ C; omega
    MC := by show N ≤ MC; omega
    V := by show N ≤ V; omega
    BC := by show B ≠ C; omega
    BM := by show B ≠ MC; omega
    BV := by show B ≠ V; omega
    CM := a1
    CV := a2
    MV := a4 }

set_option maxRecDepth 1000000 in
set_option maxHeartbeats 4000000 in
theorem backtrack_ok (R PR I np : Nat) (pg : Nat → Inst) (w : World) (hP : ProgAt w w.heap.size R PR I np pg) (hcond : w.cell? ⟨R, 13, none⟩ = some (.int .u8 4)) (hstart : w.cell? ⟨PR, 1, none⟩ = some (.int .i64 1))
    (s : ByteArray) (hs : Plain s) (nc nw : Nat) (rank : Nat → Nat) (top : Nat) (r : List Int) (hE : (envAt pg s rank top).Ok) (hF : Env.NoFail (envAt pg s rank top))
    (hwf : ∀ L : Lay, L.np = np → L.pg = pg → L.nc = nc → Wf L) (hnp : np ≤ 500) (hnp1 : 1 < np) (hen : s.size ≤ 262144) (hnc : 2 ≤ nc) (hnc2 : nc < 100) (hnw : (np * (s.size + 1) + 31) / 32 = nw) (hnw2 : nw ≤ 8192)
    (hr : Env.res (envAt pg s rank top) 1 0 (cap0 nc) = some r)
    (A ca : Nat) (hAl : A < w.heap.size) (hca : ca < nc) :
    Calls Tryz.prog 57 #[.pointer (some ⟨R, 0, none⟩), .slice none 0 0, .string s, .int .i64 0, .int .i64 nc, .slice (some ⟨A, 0, none⟩) 0 ca] w fun e w' =>
      ∃ g cap, e = .returned (.slice (some ⟨g, 0, none⟩) nc cap) ∧ w'.ownsRow w.heap.size 3 1 (.slice (some ⟨g, 0, none⟩) nc cap) nc (intCells r) ∧ Chg [] w w' := by
  have hwp := hP.prog
  have hlt := hP.lt
  have hnew := new_bit w
  have hb4 : bits .and .u8 4 4 = 4 := by rfl
  obtain ⟨B, hBd⟩ : ∃ B, w.heap.size = B := ⟨_, rfl⟩
  have hP' := hP
  rw [hBd] at hnew hlt hP' hAl
  have HBD := Lib.hid hBd
  have HR := Lib.hid hr
  have HNW := Lib.hid hnw
  clear hr hnw
  go_enter Tryz.func57, Tryz.ntmps57
  go_wp2_with fail
  go_step3
  go_wp2_with (first | (go_at_call 74; (with_reducible refine hnew.mono ?_); rintro e w1 ⟨rfl, b1, c1, z1⟩))
  have hB1 := b1.lt
  refine (inputs_init w1 B 5 s ByteArray.empty (by omega) ((b1.cell 5).trans rfl) (b1.free 5) hB1).mono ?_
  rintro e w2 ⟨rfl, hw2⟩
  dsimp only
  have b2 := b1.set 5 (.string s)
  rw [← hw2] at b2
  have c2 : Chg [B] w w2 := by rw [hw2]; exact (c1.trans (Chg.set w1 B 5 _)).mono (fun b hb _ => by simpa using hb)
  have z2 : w2.heap.size = B + 1 := by rw [hw2]; simp [World.setCell]; exact z1
  clear hw2 hnew
  have hP2 : ProgAt w2 B R PR I np pg := hP'.chg c2 (by simp)
  have p2 := hP2.prog
  have hreset := reset_any B R PR I np pg w2 hP2 hnp (by omega) B s.size nc nw s 152 b2 (Nat.le_refl _) hen hnc hnc2 HNW.out hnw2 (by
    have h1 := HNW.out
    have h2 : 2 * 1 ≤ np * (s.size + 1) := Nat.mul_le_mul (by omega) (by omega)
    omega)
  have hnc0 : (0 : Int) < (nc : Int) := by omega
  go_wp2_with fail
  refine hreset.mono ?_
  rintro e w3 ⟨rfl, C, MC, V, J, hl⟩
  dsimp only
  have q1 : w3.cell? ⟨B, 1, none⟩ = some (.slice (some ⟨C, 0, none⟩) nc nc) := (hl.b.cell 1).trans rfl
  have hnew3 := hl.new
  rw [z2] at hnew3
  have q2 : w3.cell? ⟨C, 0, none⟩ = some (.int .i64 (-1)) := by rw [hl.c.cell, List.getElem?_replicate, if_pos (by omega)]
  have q3 := hl.c.free 0
  have q4 := hl.c.lt
  have hP3 : ProgAt w3 B R PR I np pg := hP2.chg hl.chg (by simp)
  have q5 := hP3.prog
  have hRC : R ≠ C := by omega
  have hPC : PR ≠ C := by omega
  have q6 : w3.cell? ⟨PR, 1, none⟩ = some (.int .i64 1) := by
    rw [World.cell?_of_block ((c2.trans hl.chg).block PR (by omega) (by simp; omega))]; exact hstart
  have HL := Lib.hid hl
  have HP3 := Lib.hid hP3
  clear hl hP3 hreset hP2
  go_wp2_with fail
  have hl := HL.out
  have hnw' := HNW.out
  have ap : Apart (layOf B R PR I np pg B C MC V s.size nw nc s w) := laid_apart hl (Nat.le_refl _) (by omega)
  have bm := laid_mem hl HP3.out ((c2.trans hl.chg).below (by omega) (by simp)) (Nat.le_refl _) (by omega) (by omega) hnw2 (w := w)
  have bm4 := BtMem.setCap ap bm 0 0
  have cx : Ctx (layOf B R PR I np pg B C MC V s.size nw nc s w) := ⟨ap, ⟨hnp, hen, hnw2⟩, hwf _ rfl rfl rfl, rfl, hs⟩
  have hcom := Env.comes_go hE hF _ { bs0 nc with cap := cap0 nc } 1 0 (Nat.le_refl _) (by simp [bs0, cap0]) (fun pc pos h _ => by simp [bs0] at h)
  rcases hcom with ⟨r', b', e1, ⟨k, hk⟩, e3⟩ | ⟨e1, _⟩
  case inr => have := HR.out; dsimp only [bs0] at e1; rw [e1] at this; cases this
  have hrr : r' = r := by
    have := HR.out
    dsimp only [bs0] at e1
    rw [e1] at this
    exact Option.some.inj this
  subst hrr
  have e3' : b'.mcap = r' := by
    rw [e3]
    have h1 : ¬ ({ bs0 nc with cap := cap0 nc } : Env.BS).cap.length = 0 := by simp [cap0]; omega
    rw [if_neg h1, if_pos]
    simp [bs0, List.getD_eq_getElem?_getD, List.getElem?_replicate, show 1 < nc by omega]
  have hk' := moves_pop (E := envAt pg s rank top) (b := { bs0 nc with cap := cap0 nc }) rfl rfl hk
  have htry := try_sim cx rank top (b := { bs0 nc with cap := cap0 nc }) (b' := b') (k := k) bm4 rfl (by simp [cap0, layOf]) (by simp [bs0, layOf]) (by simp [bs0, List.getElem?_replicate, show 1 < nc by omega]) 1 0 (by omega) hnp1 (Nat.zero_le _) rfl (hF 1) hk'
  rw [e3'] at htry
  clear hl ap bm bm4 cx hk hk' e1 e3 e3'
  refine htry.mono ?_
  rintro e w5 ⟨rfl, d1, d2, J', n', cj', d3⟩
  dsimp only
  have t1 : w5.cell? ⟨B, 2, none⟩ = some (.slice (some ⟨MC, 0, none⟩) nc nc) := (d3.cell 2).trans rfl
  have d1' : Below w.heap.size w w5 := by rw [HBD.out]; exact d1
  have hgl := d2.lt
  have hone : ∀ u ∈ intCells r', u.oneCell' = true := by
    intro u hu
    unfold intCells at hu
    obtain ⟨x, _, rfl⟩ := List.mem_map.1 hu
    rfl
  have hlr : (intCells r').length = nc := by
    unfold intCells
    rw [List.length_map, Env.way_length (Env.res_way hE _ _ _ _ _ (Nat.le_refl _) HR.out)]
    simp [cap0]
  have hcell : ∀ (j : Nat) u, (intCells r')[j]? = some u → w5.cell? (Addr.add ⟨MC, 0, none⟩ j) = some u := by
    intro j u hu
    rw [show Addr.add ⟨MC, 0, none⟩ j = ⟨MC, j, none⟩ by simp [Addr.add]; omega]
    exact (d2.cell j).trans hu
  have HN1 := Lib.hid d2
  have HN2 := Lib.hid d3
  have HN3 := Lib.hid d1
  clear d2 d3 d1
  go_wp2_with fail
  go_step3
  go_wp2_with (at_builtin; refine int_grow _ rfl _ _ rfl ⟨A, 0, none⟩ ca rfl ⟨MC, 0, none⟩ nc nc (intCells r') rfl hlr hcell hone (by omega) (by omega) ?_)
  intro g cp w6 hown6 c6
  have b6 := HN2.out.chg c6 (by simp)
  have t2 : w6.cell? ⟨B, 5, none⟩ = some (.string s) := (b6.cell 5).trans rfl
  have t3 := b6.free 5
  have t4 := b6.lt
  have hfree := free_bit w6 B s t2 t3 t4
  have hgB : g ≠ B := by
    have h1 := (hown6.lt g rfl).1
    have := HN2.out.lt
    simp only [layOf] at this
    omega
  have H1 := Lib.hid hown6
  have H3 := Lib.hid c6
  clear hown6 c6 b6
  go_wp2_with (first | (go_at_call 77; (with_reducible refine hfree.mono ?_); rintro e w7 ⟨rfl, hw7⟩))
  rw [Exit.noGoto_ret]
  go_ret
  refine ⟨g, cp, rfl, own_base (ownsRow_chg H1.out (Chg.set w6 B 5 _) (by simpa using hgB)) (by have := d1'.size; omega), ?_⟩
  refine (((Chg.of_below d1').trans H3.out).trans (Chg.set w6 B 5 _)).mono ?_
  intro b hb hlt
  have := HBD.out
  simp at hb
  omega

end Go.Proofs.YtooggfopjaaejaaGreatDoor
namespace Go.Proofs.YtooggfopjaaejaaGreatDoor
open Go.RowKit Go.Rx

def dropSeq : Nat → Code → Code
  | 0, c => c
  | n + 1, .seq _ b => dropSeq n b
  | _ + 1, c => c

noncomputable def addScope : Code := (Tryz.f80.body.bind firstScope).getD .skip
noncomputable def addTop : Code := (findLabel addScope 0).getD .skip
noncomputable def addTop1 : Code := dropSeq 1 addTop
noncomputable def addTail : Code := dropSeq 3 addTop
noncomputable def addSw : Code := dropSeq 6 addTail

def seqPart : Nat → Code → Code
  | 0, .seq a _ => a
  | n + 1, .seq _ b => seqPart n b
  | _, c => c

/-- A code is entered at its first part. -/
def Ent (c : Code) (Q : Exit → Act → World → Prop) (a : Act) (w : World) : Prop :=
  ∀ K : Act → World → Prop, (∀ a w, (dropSeq 1 c).wp Tryz.prog Q a w → K a w) → (seqPart 0 c).wp Tryz.prog (Exit.then K Q) a w

theorem add_top : addTop = Code.skip.seq addTop1 := by kernel_rfl
theorem add_scope : addScope = (Code.label 0).seq addTop1 := by kernel_rfl
theorem add_label : findLabel addScope 0 = some addTop := by kernel_rfl

/-- The frame of add at its label. -/
structure AF (M qo pc : Nat) (pos : Int) (CB nc F : Nat) (tv : Value) (a : Act) : Prop where
  size : a.tmps.size = 226
  defers : a.defers = []
  s0 : a.tmps.getD 0 undef = .pointer (some ⟨M, 0, none⟩)
  s1 : a.tmps.getD 1 undef = .pointer (some ⟨M, qo, none⟩)
  s2 : a.tmps.getD 2 undef = .int .u32 pc
  s3 : a.tmps.getD 3 undef = .int .i64 pos
  s4 : a.tmps.getD 4 undef = .slice (some ⟨CB, 0, none⟩) nc nc
  s5 : a.tmps.getD 5 undef = .pointer (some ⟨F, 0, none⟩)
  s6 : a.tmps.getD 6 undef = tv

/-- The frame of add behind the new entry. -/
structure AG (M qo pc : Nat) (pos : Int) (CB nc F : Nat) (tv : Value) (Db n : Nat) (a : Act) : Prop where
  size : a.tmps.size = 226
  defers : a.defers = []
  s0 : a.tmps.getD 0 undef = .pointer (some ⟨M, 0, none⟩)
  s1 : a.tmps.getD 1 undef = .pointer (some ⟨M, qo, none⟩)
  s2 : a.tmps.getD 2 undef = .int .u32 pc
  s3 : a.tmps.getD 3 undef = .int .i64 pos
  s4 : a.tmps.getD 4 undef = .slice (some ⟨CB, 0, none⟩) nc nc
  s5 : a.tmps.getD 5 undef = .pointer (some ⟨F, 0, none⟩)
  s6 : a.tmps.getD 6 undef = tv
  s17 : a.tmps.getD 17 undef = .pointer (some ⟨Db, n * 2, none⟩)

theorem af_lit {M qo pc : Nat} {pos : Int} {CB nc F : Nat} {tv : Value} {a : Act} (h : AF M qo pc pos CB nc F tv a) : a = ⟨#[.pointer (some ⟨M, 0, none⟩), .pointer (some ⟨M, qo, none⟩), .int .u32 pc, .int .i64 pos, .slice (some ⟨CB, 0, none⟩) nc nc, .pointer (some ⟨F, 0, none⟩), tv, a.tmps.getD 7 undef, a.tmps.getD 8 undef, a.tmps.getD 9 undef, a.tmps.getD 10 undef, a.tmps.getD 11 undef, a.tmps.getD 12 undef, a.tmps.getD 13 undef, a.tmps.getD 14 undef, a.tmps.getD 15 undef, a.tmps.getD 16 undef, a.tmps.getD 17 undef, a.tmps.getD 18 undef, a.tmps.getD 19 undef, a.tmps.getD 20 undef, a.tmps.getD 21 undef, a.tmps.getD 22 undef, a.tmps.getD 23 undef, a.tmps.getD 24 undef, a.tmps.getD 25 undef, a.tmps.getD 26 undef, a.tmps.getD 27 undef, a.tmps.getD 28 undef, a.tmps.getD 29 undef, a.tmps.getD 30 undef, a.tmps.getD 31 undef, a.tmps.getD 32 undef, a.tmps.getD 33 undef, a.tmps.getD 34 undef, a.tmps.getD 35 undef, a.tmps.getD 36 undef, a.tmps.getD 37 undef, a.tmps.getD 38 undef, a.tmps.getD 39 undef, a.tmps.getD 40 undef, a.tmps.getD 41 undef, a.tmps.getD 42 undef, a.tmps.getD 43 undef, a.tmps.getD 44 undef, a.tmps.getD 45 undef, a.tmps.getD 46 undef, a.tmps.getD 47 undef, a.tmps.getD 48 undef, a.tmps.getD 49 undef, a.tmps.getD 50 undef, a.tmps.getD 51 undef, a.tmps.getD 52 undef, a.tmps.getD 53 undef, a.tmps.getD 54 undef, a.tmps.getD 55 undef, a.tmps.getD 56 undef, a.tmps.getD 57 undef, a.tmps.getD 58 undef, a.tmps.getD 59 undef, a.tmps.getD 60 undef, a.tmps.getD 61 undef, a.tmps.getD 62 undef, a.tmps.getD 63 undef, a.tmps.getD 64 undef, a.tmps.getD 65 undef, a.tmps.getD 66 undef, a.tmps.getD 67 undef, a.tmps.getD 68 undef, a.tmps.getD 69 undef, a.tmps.getD 70 undef, a.tmps.getD 71 undef, a.tmps.getD 72 undef, a.tmps.getD 73 undef, a.tmps.getD 74 undef, a.tmps.getD 75 undef, a.tmps.getD 76 undef, a.tmps.getD 77 undef, a.tmps.getD 78 undef, a.tmps.getD 79 undef, a.tmps.getD 80 undef, a.tmps.getD 81 undef, a.tmps.getD 82 undef, a.tmps.getD 83 undef, a.tmps.getD 84 undef, a.tmps.getD 85 undef, a.tmps.getD 86 undef, a.tmps.getD 87 undef, a.tmps.getD 88 undef, a.tmps.getD 89 undef, a.tmps.getD 90 undef, a.tmps.getD 91 undef, a.tmps.getD 92 undef, a.tmps.getD 93 undef, a.tmps.getD 94 undef, a.tmps.getD 95 undef, a.tmps.getD 96 undef, a.tmps.getD 97 undef, a.tmps.getD 98 undef, a.tmps.getD 99 undef, a.tmps.getD 100 undef, a.tmps.getD 101 undef, a.tmps.getD 102 undef, a.tmps.getD 103 undef, a.tmps.getD 104 undef, a.tmps.getD 105 undef, a.tmps.getD 106 undef, a.tmps.getD 107 undef, a.tmps.getD 108 undef, a.tmps.getD 109 undef, a.tmps.getD 110 undef, a.tmps.getD 111 undef, a.tmps.getD 112 undef, a.tmps.getD 113 undef, a.tmps.getD 114 undef, a.tmps.getD 115 undef, a.tmps.getD 116 undef, a.tmps.getD 117 undef, a.tmps.getD 118 undef, a.tmps.getD 119 undef, a.tmps.getD 120 undef, a.tmps.getD 121 undef, a.tmps.getD 122 undef, a.tmps.getD 123 undef, a.tmps.getD 124 undef, a.tmps.getD 125 undef, a.tmps.getD 126 undef, a.tmps.getD 127 undef, a.tmps.getD 128 undef, a.tmps.getD 129 undef, a.tmps.getD 130 undef, a.tmps.getD 131 undef, a.tmps.getD 132 undef, a.tmps.getD 133 undef, a.tmps.getD 134 undef, a.tmps.getD 135 undef, a.tmps.getD 136 undef, a.tmps.getD 137 undef, a.tmps.getD 138 undef, a.tmps.getD 139 undef, a.tmps.getD 140 undef, a.tmps.getD 141 undef, a.tmps.getD 142 undef, a.tmps.getD 143 undef, a.tmps.getD 144 undef, a.tmps.getD 145 undef, a.tmps.getD 146 undef, a.tmps.getD 147 undef, a.tmps.getD 148 undef, a.tmps.getD 149 undef, a.tmps.getD 150 undef, a.tmps.getD 151 undef, a.tmps.getD 152 undef, a.tmps.getD 153 undef, a.tmps.getD 154 undef, a.tmps.getD 155 undef, a.tmps.getD 156 undef, a.tmps.getD 157 undef, a.tmps.getD 158 undef, a.tmps.getD 159 undef, a.tmps.getD 160 undef, a.tmps.getD 161 undef, a.tmps.getD 162 undef, a.tmps.getD 163 undef, a.tmps.getD 164 undef, a.tmps.getD 165 undef, a.tmps.getD 166 undef, a.tmps.getD 167 undef, a.tmps.getD 168 undef, a.tmps.getD 169 undef, a.tmps.getD 170 undef, a.tmps.getD 171 undef, a.tmps.getD 172 undef, a.tmps.getD 173 undef, a.tmps.getD 174 undef, a.tmps.getD 175 undef, a.tmps.getD 176 undef, a.tmps.getD 177 undef, a.tmps.getD 178 undef, a.tmps.getD 179 undef, a.tmps.getD 180 undef, a.tmps.getD 181 undef, a.tmps.getD 182 undef, a.tmps.getD 183 undef, a.tmps.getD 184 undef, a.tmps.getD 185 undef, a.tmps.getD 186 undef, a.tmps.getD 187 undef, a.tmps.getD 188 undef, a.tmps.getD 189 undef, a.tmps.getD 190 undef, a.tmps.getD 191 undef, a.tmps.getD 192 undef, a.tmps.getD 193 undef, a.tmps.getD 194 undef, a.tmps.getD 195 undef, a.tmps.getD 196 undef, a.tmps.getD 197 undef, a.tmps.getD 198 undef, a.tmps.getD 199 undef, a.tmps.getD 200 undef, a.tmps.getD 201 undef, a.tmps.getD 202 undef, a.tmps.getD 203 undef, a.tmps.getD 204 undef, a.tmps.getD 205 undef, a.tmps.getD 206 undef, a.tmps.getD 207 undef, a.tmps.getD 208 undef, a.tmps.getD 209 undef, a.tmps.getD 210 undef, a.tmps.getD 211 undef, a.tmps.getD 212 undef, a.tmps.getD 213 undef, a.tmps.getD 214 undef, a.tmps.getD 215 undef, a.tmps.getD 216 undef, a.tmps.getD 217 undef, a.tmps.getD 218 undef, a.tmps.getD 219 undef, a.tmps.getD 220 undef, a.tmps.getD 221 undef, a.tmps.getD 222 undef, a.tmps.getD 223 undef, a.tmps.getD 224 undef, a.tmps.getD 225 undef], []⟩ := by
  obtain ⟨t, df⟩ := a
  have e1 : t = ((List.range 226).map (lay t [(0, .pointer (some ⟨M, 0, none⟩)), (1, .pointer (some ⟨M, qo, none⟩)), (2, .int .u32 pc), (3, .int .i64 pos), (4, .slice (some ⟨CB, 0, none⟩) nc nc), (5, .pointer (some ⟨F, 0, none⟩)), (6, tv)])).toArray := by
    refine lay_eq t 226 h.size _ ?_
    intro p hp
    simp only [List.mem_cons, List.not_mem_nil, or_false] at hp
    rcases hp with rfl | rfl | rfl | rfl | rfl | rfl | rfl
    · exact h.s0
    · exact h.s1
    · exact h.s2
    · exact h.s3
    · exact h.s4
    · exact h.s5
    · exact h.s6
  have e2 : ((List.range 226).map (lay t [(0, .pointer (some ⟨M, 0, none⟩)), (1, .pointer (some ⟨M, qo, none⟩)), (2, .int .u32 pc), (3, .int .i64 pos), (4, .slice (some ⟨CB, 0, none⟩) nc nc), (5, .pointer (some ⟨F, 0, none⟩)), (6, tv)])).toArray = #[.pointer (some ⟨M, 0, none⟩), .pointer (some ⟨M, qo, none⟩), .int .u32 pc, .int .i64 pos, .slice (some ⟨CB, 0, none⟩) nc nc, .pointer (some ⟨F, 0, none⟩), tv, t.getD 7 undef, t.getD 8 undef, t.getD 9 undef, t.getD 10 undef, t.getD 11 undef, t.getD 12 undef, t.getD 13 undef, t.getD 14 undef, t.getD 15 undef, t.getD 16 undef, t.getD 17 undef, t.getD 18 undef, t.getD 19 undef, t.getD 20 undef, t.getD 21 undef, t.getD 22 undef, t.getD 23 undef, t.getD 24 undef, t.getD 25 undef, t.getD 26 undef, t.getD 27 undef, t.getD 28 undef, t.getD 29 undef, t.getD 30 undef, t.getD 31 undef, t.getD 32 undef, t.getD 33 undef, t.getD 34 undef, t.getD 35 undef, t.getD 36 undef, t.getD 37 undef, t.getD 38 undef, t.getD 39 undef, t.getD 40 undef, t.getD 41 undef, t.getD 42 undef, t.getD 43 undef, t.getD 44 undef, t.getD 45 undef, t.getD 46 undef, t.getD 47 undef, t.getD 48 undef, t.getD 49 undef, t.getD 50 undef, t.getD 51 undef, t.getD 52 undef, t.getD 53 undef, t.getD 54 undef, t.getD 55 undef, t.getD 56 undef, t.getD 57 undef, t.getD 58 undef, t.getD 59 undef, t.getD 60 undef, t.getD 61 undef, t.getD 62 undef, t.getD 63 undef, t.getD 64 undef, t.getD 65 undef, t.getD 66 undef, t.getD 67 undef, t.getD 68 undef, t.getD 69 undef, t.getD 70 undef, t.getD 71 undef, t.getD 72 undef, t.getD 73 undef, t.getD 74 undef, t.getD 75 undef, t.getD 76 undef, t.getD 77 undef, t.getD 78 undef, t.getD 79 undef, t.getD 80 undef, t.getD 81 undef, t.getD 82 undef, t.getD 83 undef, t.getD 84 undef, t.getD 85 undef, t.getD 86 undef, t.getD 87 undef, t.getD 88 undef, t.getD 89 undef, t.getD 90 undef, t.getD 91 undef, t.getD 92 undef, t.getD 93 undef, t.getD 94 undef, t.getD 95 undef, t.getD 96 undef, t.getD 97 undef, t.getD 98 undef, t.getD 99 undef, t.getD 100 undef, t.getD 101 undef, t.getD 102 undef, t.getD 103 undef, t.getD 104 undef, t.getD 105 undef, t.getD 106 undef, t.getD 107 undef, t.getD 108 undef, t.getD 109 undef, t.getD 110 undef, t.getD 111 undef, t.getD 112 undef, t.getD 113 undef, t.getD 114 undef, t.getD 115 undef, t.getD 116 undef, t.getD 117 undef, t.getD 118 undef, t.getD 119 undef, t.getD 120 undef, t.getD 121 undef, t.getD 122 undef, t.getD 123 undef, t.getD 124 undef, t.getD 125 undef, t.getD 126 undef, t.getD 127 undef, t.getD 128 undef, t.getD 129 undef, t.getD 130 undef, t.getD 131 undef, t.getD 132 undef, t.getD 133 undef, t.getD 134 undef, t.getD 135 undef, t.getD 136 undef, t.getD 137 undef, t.getD 138 undef, t.getD 139 undef, t.getD 140 undef, t.getD 141 undef, t.getD 142 undef, t.getD 143 undef, t.getD 144 undef, t.getD 145 undef, t.getD 146 undef, t.getD 147 undef, t.getD 148 undef, t.getD 149 undef, t.getD 150 undef, t.getD 151 undef, t.getD 152 undef, t.getD 153 undef, t.getD 154 undef, t.getD 155 undef, t.getD 156 undef, t.getD 157 undef, t.getD 158 undef, t.getD 159 undef, t.getD 160 undef, t.getD 161 undef, t.getD 162 undef, t.getD 163 undef, t.getD 164 undef, t.getD 165 undef, t.getD 166 undef, t.getD 167 undef, t.getD 168 undef, t.getD 169 undef, t.getD 170 undef, t.getD 171 undef, t.getD 172 undef, t.getD 173 undef, t.getD 174 undef, t.getD 175 undef, t.getD 176 undef, t.getD 177 undef, t.getD 178 undef, t.getD 179 undef, t.getD 180 undef, t.getD 181 undef, t.getD 182 undef, t.getD 183 undef, t.getD 184 undef, t.getD 185 undef, t.getD 186 undef, t.getD 187 undef, t.getD 188 undef, t.getD 189 undef, t.getD 190 undef, t.getD 191 undef, t.getD 192 undef, t.getD 193 undef, t.getD 194 undef, t.getD 195 undef, t.getD 196 undef, t.getD 197 undef, t.getD 198 undef, t.getD 199 undef, t.getD 200 undef, t.getD 201 undef, t.getD 202 undef, t.getD 203 undef, t.getD 204 undef, t.getD 205 undef, t.getD 206 undef, t.getD 207 undef, t.getD 208 undef, t.getD 209 undef, t.getD 210 undef, t.getD 211 undef, t.getD 212 undef, t.getD 213 undef, t.getD 214 undef, t.getD 215 undef, t.getD 216 undef, t.getD 217 undef, t.getD 218 undef, t.getD 219 undef, t.getD 220 undef, t.getD 221 undef, t.getD 222 undef, t.getD 223 undef, t.getD 224 undef, t.getD 225 undef] := by kernel_rfl
  have e3 : df = [] := h.defers
  subst e3
  show (⟨t, []⟩ : Act) = ⟨#[.pointer (some ⟨M, 0, none⟩), .pointer (some ⟨M, qo, none⟩), .int .u32 pc, .int .i64 pos, .slice (some ⟨CB, 0, none⟩) nc nc, .pointer (some ⟨F, 0, none⟩), tv, t.getD 7 undef, t.getD 8 undef, t.getD 9 undef, t.getD 10 undef, t.getD 11 undef, t.getD 12 undef, t.getD 13 undef, t.getD 14 undef, t.getD 15 undef, t.getD 16 undef, t.getD 17 undef, t.getD 18 undef, t.getD 19 undef, t.getD 20 undef, t.getD 21 undef, t.getD 22 undef, t.getD 23 undef, t.getD 24 undef, t.getD 25 undef, t.getD 26 undef, t.getD 27 undef, t.getD 28 undef, t.getD 29 undef, t.getD 30 undef, t.getD 31 undef, t.getD 32 undef, t.getD 33 undef, t.getD 34 undef, t.getD 35 undef, t.getD 36 undef, t.getD 37 undef, t.getD 38 undef, t.getD 39 undef, t.getD 40 undef, t.getD 41 undef, t.getD 42 undef, t.getD 43 undef, t.getD 44 undef, t.getD 45 undef, t.getD 46 undef, t.getD 47 undef, t.getD 48 undef, t.getD 49 undef, t.getD 50 undef, t.getD 51 undef, t.getD 52 undef, t.getD 53 undef, t.getD 54 undef, t.getD 55 undef, t.getD 56 undef, t.getD 57 undef, t.getD 58 undef, t.getD 59 undef, t.getD 60 undef, t.getD 61 undef, t.getD 62 undef, t.getD 63 undef, t.getD 64 undef, t.getD 65 undef, t.getD 66 undef, t.getD 67 undef, t.getD 68 undef, t.getD 69 undef, t.getD 70 undef, t.getD 71 undef, t.getD 72 undef, t.getD 73 undef, t.getD 74 undef, t.getD 75 undef, t.getD 76 undef, t.getD 77 undef, t.getD 78 undef, t.getD 79 undef, t.getD 80 undef, t.getD 81 undef, t.getD 82 undef, t.getD 83 undef, t.getD 84 undef, t.getD 85 undef, t.getD 86 undef, t.getD 87 undef, t.getD 88 undef, t.getD 89 undef, t.getD 90 undef, t.getD 91 undef, t.getD 92 undef, t.getD 93 undef, t.getD 94 undef, t.getD 95 undef, t.getD 96 undef, t.getD 97 undef, t.getD 98 undef, t.getD 99 undef, t.getD 100 undef, t.getD 101 undef, t.getD 102 undef, t.getD 103 undef, t.getD 104 undef, t.getD 105 undef, t.getD 106 undef, t.getD 107 undef, t.getD 108 undef, t.getD 109 undef, t.getD 110 undef, t.getD 111 undef, t.getD 112 undef, t.getD 113 undef, t.getD 114 undef, t.getD 115 undef, t.getD 116 undef, t.getD 117 undef, t.getD 118 undef, t.getD 119 undef, t.getD 120 undef, t.getD 121 undef, t.getD 122 undef, t.getD 123 undef, t.getD 124 undef, t.getD 125 undef, t.getD 126 undef, t.getD 127 undef, t.getD 128 undef, t.getD 129 undef, t.getD 130 undef, t.getD 131 undef, t.getD 132 undef, t.getD 133 undef, t.getD 134 undef, t.getD 135 undef, t.getD 136 undef, t.getD 137 undef, t.getD 138 undef, t.getD 139 undef, t.getD 140 undef, t.getD 141 undef, t.getD 142 undef, t.getD 143 undef, t.getD 144 undef, t.getD 145 undef, t.getD 146 undef, t.getD 147 undef, t.getD 148 undef, t.getD 149 undef, t.getD 150 undef, t.getD 151 undef, t.getD 152 undef, t.getD 153 undef, t.getD 154 undef, t.getD 155 undef, t.getD 156 undef, t.getD 157 undef, t.getD 158 undef, t.getD 159 undef, t.getD 160 undef, t.getD 161 undef, t.getD 162 undef, t.getD 163 undef, t.getD 164 undef, t.getD 165 undef, t.getD 166 undef, t.getD 167 undef, t.getD 168 undef, t.getD 169 undef, t.getD 170 undef, t.getD 171 undef, t.getD 172 undef, t.getD 173 undef, t.getD 174 undef, t.getD 175 undef, t.getD 176 undef, t.getD 177 undef, t.getD 178 undef, t.getD 179 undef, t.getD 180 undef, t.getD 181 undef, t.getD 182 undef, t.getD 183 undef, t.getD 184 undef, t.getD 185 undef, t.getD 186 undef, t.getD 187 undef, t.getD 188 undef, t.getD 189 undef, t.getD 190 undef, t.getD 191 undef, t.getD 192 undef, t.getD 193 undef, t.getD 194 undef, t.getD 195 undef, t.getD 196 undef, t.getD 197 undef, t.getD 198 undef, t.getD 199 undef, t.getD 200 undef, t.getD 201 undef, t.getD 202 undef, t.getD 203 undef, t.getD 204 undef, t.getD 205 undef, t.getD 206 undef, t.getD 207 undef, t.getD 208 undef, t.getD 209 undef, t.getD 210 undef, t.getD 211 undef, t.getD 212 undef, t.getD 213 undef, t.getD 214 undef, t.getD 215 undef, t.getD 216 undef, t.getD 217 undef, t.getD 218 undef, t.getD 219 undef, t.getD 220 undef, t.getD 221 undef, t.getD 222 undef, t.getD 223 undef, t.getD 224 undef, t.getD 225 undef], []⟩
  exact congrArg (fun x => (⟨x, []⟩ : Act)) (e1.trans e2)

theorem ag_lit {M qo pc : Nat} {pos : Int} {CB nc F : Nat} {tv : Value} {Db n : Nat} {a : Act} (h : AG M qo pc pos CB nc F tv Db n a) : a = ⟨#[.pointer (some ⟨M, 0, none⟩), .pointer (some ⟨M, qo, none⟩), .int .u32 pc, .int .i64 pos, .slice (some ⟨CB, 0, none⟩) nc nc, .pointer (some ⟨F, 0, none⟩), tv, a.tmps.getD 7 undef, a.tmps.getD 8 undef, a.tmps.getD 9 undef, a.tmps.getD 10 undef, a.tmps.getD 11 undef, a.tmps.getD 12 undef, a.tmps.getD 13 undef, a.tmps.getD 14 undef, a.tmps.getD 15 undef, a.tmps.getD 16 undef, .pointer (some ⟨Db, n * 2, none⟩), a.tmps.getD 18 undef, a.tmps.getD 19 undef, a.tmps.getD 20 undef, a.tmps.getD 21 undef, a.tmps.getD 22 undef, a.tmps.getD 23 undef, a.tmps.getD 24 undef, a.tmps.getD 25 undef, a.tmps.getD 26 undef, a.tmps.getD 27 undef, a.tmps.getD 28 undef, a.tmps.getD 29 undef, a.tmps.getD 30 undef, a.tmps.getD 31 undef, a.tmps.getD 32 undef, a.tmps.getD 33 undef, a.tmps.getD 34 undef, a.tmps.getD 35 undef, a.tmps.getD 36 undef, a.tmps.getD 37 undef, a.tmps.getD 38 undef, a.tmps.getD 39 undef, a.tmps.getD 40 undef, a.tmps.getD 41 undef, a.tmps.getD 42 undef, a.tmps.getD 43 undef, a.tmps.getD 44 undef, a.tmps.getD 45 undef, a.tmps.getD 46 undef, a.tmps.getD 47 undef, a.tmps.getD 48 undef, a.tmps.getD 49 undef, a.tmps.getD 50 undef, a.tmps.getD 51 undef, a.tmps.getD 52 undef, a.tmps.getD 53 undef, a.tmps.getD 54 undef, a.tmps.getD 55 undef, a.tmps.getD 56 undef, a.tmps.getD 57 undef, a.tmps.getD 58 undef, a.tmps.getD 59 undef, a.tmps.getD 60 undef, a.tmps.getD 61 undef, a.tmps.getD 62 undef, a.tmps.getD 63 undef, a.tmps.getD 64 undef, a.tmps.getD 65 undef, a.tmps.getD 66 undef, a.tmps.getD 67 undef, a.tmps.getD 68 undef, a.tmps.getD 69 undef, a.tmps.getD 70 undef, a.tmps.getD 71 undef, a.tmps.getD 72 undef, a.tmps.getD 73 undef, a.tmps.getD 74 undef, a.tmps.getD 75 undef, a.tmps.getD 76 undef, a.tmps.getD 77 undef, a.tmps.getD 78 undef, a.tmps.getD 79 undef, a.tmps.getD 80 undef, a.tmps.getD 81 undef, a.tmps.getD 82 undef, a.tmps.getD 83 undef, a.tmps.getD 84 undef, a.tmps.getD 85 undef, a.tmps.getD 86 undef, a.tmps.getD 87 undef, a.tmps.getD 88 undef, a.tmps.getD 89 undef, a.tmps.getD 90 undef, a.tmps.getD 91 undef, a.tmps.getD 92 undef, a.tmps.getD 93 undef, a.tmps.getD 94 undef, a.tmps.getD 95 undef, a.tmps.getD 96 undef, a.tmps.getD 97 undef, a.tmps.getD 98 undef, a.tmps.getD 99 undef, a.tmps.getD 100 undef, a.tmps.getD 101 undef, a.tmps.getD 102 undef, a.tmps.getD 103 undef, a.tmps.getD 104 undef, a.tmps.getD 105 undef, a.tmps.getD 106 undef, a.tmps.getD 107 undef, a.tmps.getD 108 undef, a.tmps.getD 109 undef, a.tmps.getD 110 undef, a.tmps.getD 111 undef, a.tmps.getD 112 undef, a.tmps.getD 113 undef, a.tmps.getD 114 undef, a.tmps.getD 115 undef, a.tmps.getD 116 undef, a.tmps.getD 117 undef, a.tmps.getD 118 undef, a.tmps.getD 119 undef, a.tmps.getD 120 undef, a.tmps.getD 121 undef, a.tmps.getD 122 undef, a.tmps.getD 123 undef, a.tmps.getD 124 undef, a.tmps.getD 125 undef, a.tmps.getD 126 undef, a.tmps.getD 127 undef, a.tmps.getD 128 undef, a.tmps.getD 129 undef, a.tmps.getD 130 undef, a.tmps.getD 131 undef, a.tmps.getD 132 undef, a.tmps.getD 133 undef, a.tmps.getD 134 undef, a.tmps.getD 135 undef, a.tmps.getD 136 undef, a.tmps.getD 137 undef, a.tmps.getD 138 undef, a.tmps.getD 139 undef, a.tmps.getD 140 undef, a.tmps.getD 141 undef, a.tmps.getD 142 undef, a.tmps.getD 143 undef, a.tmps.getD 144 undef, a.tmps.getD 145 undef, a.tmps.getD 146 undef, a.tmps.getD 147 undef, a.tmps.getD 148 undef, a.tmps.getD 149 undef, a.tmps.getD 150 undef, a.tmps.getD 151 undef, a.tmps.getD 152 undef, a.tmps.getD 153 undef, a.tmps.getD 154 undef, a.tmps.getD 155 undef, a.tmps.getD 156 undef, a.tmps.getD 157 undef, a.tmps.getD 158 undef, a.tmps.getD 159 undef, a.tmps.getD 160 undef, a.tmps.getD 161 undef, a.tmps.getD 162 undef, a.tmps.getD 163 undef, a.tmps.getD 164 undef, a.tmps.getD 165 undef, a.tmps.getD 166 undef, a.tmps.getD 167 undef, a.tmps.getD 168 undef, a.tmps.getD 169 undef, a.tmps.getD 170 undef, a.tmps.getD 171 undef, a.tmps.getD 172 undef, a.tmps.getD 173 undef, a.tmps.getD 174 undef, a.tmps.getD 175 undef, a.tmps.getD 176 undef, a.tmps.getD 177 undef, a.tmps.getD 178 undef, a.tmps.getD 179 undef, a.tmps.getD 180 undef, a.tmps.getD 181 undef, a.tmps.getD 182 undef, a.tmps.getD 183 undef, a.tmps.getD 184 undef, a.tmps.getD 185 undef, a.tmps.getD 186 undef, a.tmps.getD 187 undef, a.tmps.getD 188 undef, a.tmps.getD 189 undef, a.tmps.getD 190 undef, a.tmps.getD 191 undef, a.tmps.getD 192 undef, a.tmps.getD 193 undef, a.tmps.getD 194 undef, a.tmps.getD 195 undef, a.tmps.getD 196 undef, a.tmps.getD 197 undef, a.tmps.getD 198 undef, a.tmps.getD 199 undef, a.tmps.getD 200 undef, a.tmps.getD 201 undef, a.tmps.getD 202 undef, a.tmps.getD 203 undef, a.tmps.getD 204 undef, a.tmps.getD 205 undef, a.tmps.getD 206 undef, a.tmps.getD 207 undef, a.tmps.getD 208 undef, a.tmps.getD 209 undef, a.tmps.getD 210 undef, a.tmps.getD 211 undef, a.tmps.getD 212 undef, a.tmps.getD 213 undef, a.tmps.getD 214 undef, a.tmps.getD 215 undef, a.tmps.getD 216 undef, a.tmps.getD 217 undef, a.tmps.getD 218 undef, a.tmps.getD 219 undef, a.tmps.getD 220 undef, a.tmps.getD 221 undef, a.tmps.getD 222 undef, a.tmps.getD 223 undef, a.tmps.getD 224 undef, a.tmps.getD 225 undef], []⟩ := by
  obtain ⟨t, df⟩ := a
  have e1 : t = ((List.range 226).map (lay t [(0, .pointer (some ⟨M, 0, none⟩)), (1, .pointer (some ⟨M, qo, none⟩)), (2, .int .u32 pc), (3, .int .i64 pos), (4, .slice (some ⟨CB, 0, none⟩) nc nc), (5, .pointer (some ⟨F, 0, none⟩)), (6, tv), (17, .pointer (some ⟨Db, n * 2, none⟩))])).toArray := by
    refine lay_eq t 226 h.size _ ?_
    intro p hp
    simp only [List.mem_cons, List.not_mem_nil, or_false] at hp
    rcases hp with rfl | rfl | rfl | rfl | rfl | rfl | rfl | rfl
    · exact h.s0
    · exact h.s1
    · exact h.s2
    · exact h.s3
    · exact h.s4
    · exact h.s5
    · exact h.s6
    · exact h.s17
  have e2 : ((List.range 226).map (lay t [(0, .pointer (some ⟨M, 0, none⟩)), (1, .pointer (some ⟨M, qo, none⟩)), (2, .int .u32 pc), (3, .int .i64 pos), (4, .slice (some ⟨CB, 0, none⟩) nc nc), (5, .pointer (some ⟨F, 0, none⟩)), (6, tv), (17, .pointer (some ⟨Db, n * 2, none⟩))])).toArray = #[.pointer (some ⟨M, 0, none⟩), .pointer (some ⟨M, qo, none⟩), .int .u32 pc, .int .i64 pos, .slice (some ⟨CB, 0, none⟩) nc nc, .pointer (some ⟨F, 0, none⟩), tv, t.getD 7 undef, t.getD 8 undef, t.getD 9 undef, t.getD 10 undef, t.getD 11 undef, t.getD 12 undef, t.getD 13 undef, t.getD 14 undef, t.getD 15 undef, t.getD 16 undef, .pointer (some ⟨Db, n * 2, none⟩), t.getD 18 undef, t.getD 19 undef, t.getD 20 undef, t.getD 21 undef, t.getD 22 undef, t.getD 23 undef, t.getD 24 undef, t.getD 25 undef, t.getD 26 undef, t.getD 27 undef, t.getD 28 undef, t.getD 29 undef, t.getD 30 undef, t.getD 31 undef, t.getD 32 undef, t.getD 33 undef, t.getD 34 undef, t.getD 35 undef, t.getD 36 undef, t.getD 37 undef, t.getD 38 undef, t.getD 39 undef, t.getD 40 undef, t.getD 41 undef, t.getD 42 undef, t.getD 43 undef, t.getD 44 undef, t.getD 45 undef, t.getD 46 undef, t.getD 47 undef, t.getD 48 undef, t.getD 49 undef, t.getD 50 undef, t.getD 51 undef, t.getD 52 undef, t.getD 53 undef, t.getD 54 undef, t.getD 55 undef, t.getD 56 undef, t.getD 57 undef, t.getD 58 undef, t.getD 59 undef, t.getD 60 undef, t.getD 61 undef, t.getD 62 undef, t.getD 63 undef, t.getD 64 undef, t.getD 65 undef, t.getD 66 undef, t.getD 67 undef, t.getD 68 undef, t.getD 69 undef, t.getD 70 undef, t.getD 71 undef, t.getD 72 undef, t.getD 73 undef, t.getD 74 undef, t.getD 75 undef, t.getD 76 undef, t.getD 77 undef, t.getD 78 undef, t.getD 79 undef, t.getD 80 undef, t.getD 81 undef, t.getD 82 undef, t.getD 83 undef, t.getD 84 undef, t.getD 85 undef, t.getD 86 undef, t.getD 87 undef, t.getD 88 undef, t.getD 89 undef, t.getD 90 undef, t.getD 91 undef, t.getD 92 undef, t.getD 93 undef, t.getD 94 undef, t.getD 95 undef, t.getD 96 undef, t.getD 97 undef, t.getD 98 undef, t.getD 99 undef, t.getD 100 undef, t.getD 101 undef, t.getD 102 undef, t.getD 103 undef, t.getD 104 undef, t.getD 105 undef, t.getD 106 undef, t.getD 107 undef, t.getD 108 undef, t.getD 109 undef, t.getD 110 undef, t.getD 111 undef, t.getD 112 undef, t.getD 113 undef, t.getD 114 undef, t.getD 115 undef, t.getD 116 undef, t.getD 117 undef, t.getD 118 undef, t.getD 119 undef, t.getD 120 undef, t.getD 121 undef, t.getD 122 undef, t.getD 123 undef, t.getD 124 undef, t.getD 125 undef, t.getD 126 undef, t.getD 127 undef, t.getD 128 undef, t.getD 129 undef, t.getD 130 undef, t.getD 131 undef, t.getD 132 undef, t.getD 133 undef, t.getD 134 undef, t.getD 135 undef, t.getD 136 undef, t.getD 137 undef, t.getD 138 undef, t.getD 139 undef, t.getD 140 undef, t.getD 141 undef, t.getD 142 undef, t.getD 143 undef, t.getD 144 undef, t.getD 145 undef, t.getD 146 undef, t.getD 147 undef, t.getD 148 undef, t.getD 149 undef, t.getD 150 undef, t.getD 151 undef, t.getD 152 undef, t.getD 153 undef, t.getD 154 undef, t.getD 155 undef, t.getD 156 undef, t.getD 157 undef, t.getD 158 undef, t.getD 159 undef, t.getD 160 undef, t.getD 161 undef, t.getD 162 undef, t.getD 163 undef, t.getD 164 undef, t.getD 165 undef, t.getD 166 undef, t.getD 167 undef, t.getD 168 undef, t.getD 169 undef, t.getD 170 undef, t.getD 171 undef, t.getD 172 undef, t.getD 173 undef, t.getD 174 undef, t.getD 175 undef, t.getD 176 undef, t.getD 177 undef, t.getD 178 undef, t.getD 179 undef, t.getD 180 undef, t.getD 181 undef, t.getD 182 undef, t.getD 183 undef, t.getD 184 undef, t.getD 185 undef, t.getD 186 undef, t.getD 187 undef, t.getD 188 undef, t.getD 189 undef, t.getD 190 undef, t.getD 191 undef, t.getD 192 undef, t.getD 193 undef, t.getD 194 undef, t.getD 195 undef, t.getD 196 undef, t.getD 197 undef, t.getD 198 undef, t.getD 199 undef, t.getD 200 undef, t.getD 201 undef, t.getD 202 undef, t.getD 203 undef, t.getD 204 undef, t.getD 205 undef, t.getD 206 undef, t.getD 207 undef, t.getD 208 undef, t.getD 209 undef, t.getD 210 undef, t.getD 211 undef, t.getD 212 undef, t.getD 213 undef, t.getD 214 undef, t.getD 215 undef, t.getD 216 undef, t.getD 217 undef, t.getD 218 undef, t.getD 219 undef, t.getD 220 undef, t.getD 221 undef, t.getD 222 undef, t.getD 223 undef, t.getD 224 undef, t.getD 225 undef] := by kernel_rfl
  have e3 : df = [] := h.defers
  subst e3
  show (⟨t, []⟩ : Act) = ⟨#[.pointer (some ⟨M, 0, none⟩), .pointer (some ⟨M, qo, none⟩), .int .u32 pc, .int .i64 pos, .slice (some ⟨CB, 0, none⟩) nc nc, .pointer (some ⟨F, 0, none⟩), tv, t.getD 7 undef, t.getD 8 undef, t.getD 9 undef, t.getD 10 undef, t.getD 11 undef, t.getD 12 undef, t.getD 13 undef, t.getD 14 undef, t.getD 15 undef, t.getD 16 undef, .pointer (some ⟨Db, n * 2, none⟩), t.getD 18 undef, t.getD 19 undef, t.getD 20 undef, t.getD 21 undef, t.getD 22 undef, t.getD 23 undef, t.getD 24 undef, t.getD 25 undef, t.getD 26 undef, t.getD 27 undef, t.getD 28 undef, t.getD 29 undef, t.getD 30 undef, t.getD 31 undef, t.getD 32 undef, t.getD 33 undef, t.getD 34 undef, t.getD 35 undef, t.getD 36 undef, t.getD 37 undef, t.getD 38 undef, t.getD 39 undef, t.getD 40 undef, t.getD 41 undef, t.getD 42 undef, t.getD 43 undef, t.getD 44 undef, t.getD 45 undef, t.getD 46 undef, t.getD 47 undef, t.getD 48 undef, t.getD 49 undef, t.getD 50 undef, t.getD 51 undef, t.getD 52 undef, t.getD 53 undef, t.getD 54 undef, t.getD 55 undef, t.getD 56 undef, t.getD 57 undef, t.getD 58 undef, t.getD 59 undef, t.getD 60 undef, t.getD 61 undef, t.getD 62 undef, t.getD 63 undef, t.getD 64 undef, t.getD 65 undef, t.getD 66 undef, t.getD 67 undef, t.getD 68 undef, t.getD 69 undef, t.getD 70 undef, t.getD 71 undef, t.getD 72 undef, t.getD 73 undef, t.getD 74 undef, t.getD 75 undef, t.getD 76 undef, t.getD 77 undef, t.getD 78 undef, t.getD 79 undef, t.getD 80 undef, t.getD 81 undef, t.getD 82 undef, t.getD 83 undef, t.getD 84 undef, t.getD 85 undef, t.getD 86 undef, t.getD 87 undef, t.getD 88 undef, t.getD 89 undef, t.getD 90 undef, t.getD 91 undef, t.getD 92 undef, t.getD 93 undef, t.getD 94 undef, t.getD 95 undef, t.getD 96 undef, t.getD 97 undef, t.getD 98 undef, t.getD 99 undef, t.getD 100 undef, t.getD 101 undef, t.getD 102 undef, t.getD 103 undef, t.getD 104 undef, t.getD 105 undef, t.getD 106 undef, t.getD 107 undef, t.getD 108 undef, t.getD 109 undef, t.getD 110 undef, t.getD 111 undef, t.getD 112 undef, t.getD 113 undef, t.getD 114 undef, t.getD 115 undef, t.getD 116 undef, t.getD 117 undef, t.getD 118 undef, t.getD 119 undef, t.getD 120 undef, t.getD 121 undef, t.getD 122 undef, t.getD 123 undef, t.getD 124 undef, t.getD 125 undef, t.getD 126 undef, t.getD 127 undef, t.getD 128 undef, t.getD 129 undef, t.getD 130 undef, t.getD 131 undef, t.getD 132 undef, t.getD 133 undef, t.getD 134 undef, t.getD 135 undef, t.getD 136 undef, t.getD 137 undef, t.getD 138 undef, t.getD 139 undef, t.getD 140 undef, t.getD 141 undef, t.getD 142 undef, t.getD 143 undef, t.getD 144 undef, t.getD 145 undef, t.getD 146 undef, t.getD 147 undef, t.getD 148 undef, t.getD 149 undef, t.getD 150 undef, t.getD 151 undef, t.getD 152 undef, t.getD 153 undef, t.getD 154 undef, t.getD 155 undef, t.getD 156 undef, t.getD 157 undef, t.getD 158 undef, t.getD 159 undef, t.getD 160 undef, t.getD 161 undef, t.getD 162 undef, t.getD 163 undef, t.getD 164 undef, t.getD 165 undef, t.getD 166 undef, t.getD 167 undef, t.getD 168 undef, t.getD 169 undef, t.getD 170 undef, t.getD 171 undef, t.getD 172 undef, t.getD 173 undef, t.getD 174 undef, t.getD 175 undef, t.getD 176 undef, t.getD 177 undef, t.getD 178 undef, t.getD 179 undef, t.getD 180 undef, t.getD 181 undef, t.getD 182 undef, t.getD 183 undef, t.getD 184 undef, t.getD 185 undef, t.getD 186 undef, t.getD 187 undef, t.getD 188 undef, t.getD 189 undef, t.getD 190 undef, t.getD 191 undef, t.getD 192 undef, t.getD 193 undef, t.getD 194 undef, t.getD 195 undef, t.getD 196 undef, t.getD 197 undef, t.getD 198 undef, t.getD 199 undef, t.getD 200 undef, t.getD 201 undef, t.getD 202 undef, t.getD 203 undef, t.getD 204 undef, t.getD 205 undef, t.getD 206 undef, t.getD 207 undef, t.getD 208 undef, t.getD 209 undef, t.getD 210 undef, t.getD 211 undef, t.getD 212 undef, t.getD 213 undef, t.getD 214 undef, t.getD 215 undef, t.getD 216 undef, t.getD 217 undef, t.getD 218 undef, t.getD 219 undef, t.getD 220 undef, t.getD 221 undef, t.getD 222 undef, t.getD 223 undef, t.getD 224 undef, t.getD 225 undef], []⟩
  exact congrArg (fun x => (⟨x, []⟩ : Act)) (e1.trans e2)

end Go.Proofs.YtooggfopjaaejaaGreatDoor
