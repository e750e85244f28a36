/-
FnRefNormalSelf: the regular expressions, the digest and the reference, part 12 of 26.
-/
import Derived.Test.YtkbmigfkclnlaaaGreatDoorV11
import Derived.Test.YtkbmigfkclnlaaaGreatDoorV10
import Derived.Test.YtkbmigfkclnlaaaGreatDoorV02
import Derived.Lib.Hide
set_option linter.all false
namespace Go.Proofs.YtkbmigfkclnlaaaGreatDoor
open Go.RowKit Go.Rx

section
variable {L : AL} {E : Env} {p k pc : Nat} {c : List Int} {q : List CE} {pool : List Th} {hand : Option Nat} {w : World} {Q : Exit → Act → World → Prop}

theorem top_sim (ok : AOk L) (ae : AEnv L E p) (hr : E.rank pc < k + 1) (hp0 : 0 < pc) (hpc : pc < L.np) (st : AddSt L c q pool hand w)
  (ih : CallOk L E p k) (hg : GotoOk L E p k pc c q pool hand w Q) (hret : RetOk L E p k pc c q pool hand w Q) {a : Act} (hf : AF L.M L.qo pc p L.CB L.nc L.F (handPtr hand) a) : addTop1.wp Tryz.prog Q a w := by
 obtain ⟨m1, mq, mq1, m6, m8⟩ := AL.mc ok q.length pool.length
 have h0 := (st.mblk.cell L.qo).trans mq
 have h1 := (st.mblk.cell (L.qo + 1)).trans mq1
 have hnp := ok.np
 have hnq := ok.nq
 have hge := st.ge
 have hlen : q.length ≤ L.nq := by
  obtain ⟨rest, _, d2⟩ := st.dense
  omega
 obtain ⟨j, h2, hc⟩ := st.look ok pc hpc
 have tail : pc ∉ q.map (·.1) → ∀ a, AF L.M L.qo pc p L.CB L.nc L.F (handPtr hand) a → Ent addTail Q a w := by
  intro hn a hf
  have hroom := st.room ok hpc hn
  obtain ⟨⟨x4, h4⟩, ⟨x5, h5⟩⟩ := st.cells hroom
  obtain ⟨rest, d1, d2⟩ := st.dense
  obtain ⟨sp, s1, s2, s3⟩ := st.sparse
  obtain ⟨⟨f1, f2, f3, f4, f5, f6, f7, f8, f9, f10⟩, fr⟩ := st.fixed
  obtain ⟨st1, mv⟩ := st.entry ok hp0 hpc hn
  refine add_entry_f L.M L.qo pc p L.CB L.nc L.F (handPtr hand) w Q L.S L.D L.nq L.nq q.length hp0 (by omega) (by omega) hlen h0 h1 hroom (by omega) (.int .u32 j) x4 x5 h2 h4 h5
   (st.mblk.free _) (d1.free _) (d1.free _) (s1.free _) st.mblk.lt d1.lt s1.lt f2 f1 (Ne.symm f5) ?_ hf
  intro a1 w1 hf1 hw1
  have e : w1 = entW L q.length pc w := hw1
  subst e
  exact sw_sim ok ae hr hp0 hpc hn st1 mv ih hg hret hf1
 rcases hc with ⟨hin, hj, hD⟩ | ⟨hn, hj⟩ | ⟨hn, hj, pc2, hD, hne⟩
 ·refine add_in_f L.M L.qo pc p L.CB L.nc L.F (handPtr hand) w Q L.S L.D L.nq L.nq q.length hp0 (by omega) (by omega) hlen h0 h1 j h2 hj hD ?_ hf
  intro a1 s1 s2 s3
  refine hret a1 q pool hand w s1 s2 s3 ⟨st, ?_, New.refl _ _ _ _, Moved.refl _ _ _ _ _⟩
  rw [addF_in (by rw [pcs_fg]; exact hin)]
 ·exact add_out_f L.M L.qo pc p L.CB L.nc L.F (handPtr hand) w Q L.S L.D L.nq L.nq q.length hp0 (by omega) (by omega) hlen h0 h1 j h2 hj (tail hn) hf
 ·exact add_other_f L.M L.qo pc p L.CB L.nc L.F (handPtr hand) w Q L.S L.D L.nq L.nq q.length hp0 (by omega) (by omega) hlen h0 h1 j pc2 h2 hj hD hne (tail hn) hf

end

def AddAt (L : AL) (E : Env) (p k pc : Nat) (c : List Int) (q : List CE) (pool : List Th) (hand : Option Nat) (w : World) (l j : Nat) (a : Act) (w1 : World) : Prop :=
 l = 0 ∧ j ≤ k ∧ ∃ pc1 q1 pool1 hand1, E.rank pc1 < j ∧ 0 < pc1 ∧ pc1 < L.np ∧ AF L.M L.qo pc1 p L.CB L.nc L.F (handPtr hand1) a ∧ AddSt L c q1 pool1 hand1 w1 ∧ New L c q hand q1 hand1 ∧ Moved L q pool hand w q1 pool1 hand1 w1 ∧
  Env.addF E p j (q1.map fg) pc1 c = Env.addF E p k (q.map fg) pc c

set_option maxRecDepth 1000000 in
set_option maxHeartbeats 4000000 in
theorem add_sim {L : AL} {E : Env} {p : Nat} (ok : AOk L) (ae : AEnv L E p) : ∀ k, CallOk L E p k := by
 intro k
 induction k using Nat.strongRecOn with
 | _ k ih =>
  intro pc c q pool hand w hr hp0 hpc st
  have key : ∀ (Q : Exit → Act → World → Prop), (∀ a q1 pool1 hand1 w1, a.tmps.size = 226 → a.defers = [] → a.tmps.getD 14 undef = handPtr hand1 → AddOut L E p k pc c q pool hand w q1 pool1 hand1 w1 → Q .ret a w1) →
    ∀ a, AF L.M L.qo pc p L.CB L.nc L.F (handPtr hand) a → (Code.scope addScope).wp Tryz.prog Q a w := by
   intro Q hQ a hf
   have pass : ∀ j a w1, AddAt L E p k pc c q pool hand w 0 j a w1 → addTop1.wp Tryz.prog (Exit.jumps (fun l' a' w' => ∃ k', k' < j ∧ AddAt L E p k pc c q pool hand w l' k' a' w') Q) a w1 := by
    rintro j a w1 ⟨_, hjk, pc1, q1, pool1, hand1, hr1, g1, g2, hf1, st1, nw1, mv1, heq⟩
    obtain ⟨j, rfl⟩ : ∃ i, j = i + 1 := ⟨j - 1, by omega⟩
    refine top_sim ok ae hr1 g1 g2 st1 (ih j (by omega)) ?_ ?_ hf1
    ·intro a' pc2 q2 pool2 hand2 w2 hr2 i1 i2 hf2 st2 nw2 mv2 heq2
     exact ⟨j, by omega, rfl, by omega, pc2, q2, pool2, hand2, hr2, i1, i2, hf2, st2, nw1.trans nw2, mv1.trans mv2, heq2.trans heq⟩
    ·intro a' q2 pool2 hand2 w2 s1 s2 s3 ho
     exact hQ a' q2 pool2 hand2 w2 s1 s2 s3 ⟨ho.st, ho.eq.trans heq, nw1.trans ho.new, mv1.trans ho.moved⟩
   refine wp_scope_nat (AddAt L E p k pc c q pool hand w) ?_ ?_
   ·rw [add_scope]
    refine wp_seq (wp_label ?_)
    refine wp_mono (pass k a w ⟨rfl, Nat.le_refl _, pc, q, pool, hand, hr, hp0, hpc, hf, st, New.refl _ _ _ _, Moved.refl _ _ _ _ _, rfl⟩) ?_
    intro e a' w' h
    cases e with
    | goto l =>
     obtain ⟨k', _, hh⟩ := h
     exact ⟨k', hh⟩
    | normal => exact h
    | exit _ => exact h
    | ret => exact h
    | panic _ => exact h
    | outgrown => exact h
   ·intro j l a' w' hAt
    have hl : l = 0 := hAt.1
    subst hl
    refine ⟨addTop, add_label, ?_⟩
    rw [add_top]
    exact wp_seq (wp_skip (pass j a' w' hAt))
  have HK := Lib.hid key
  clear key ih
  go_enter Tryz.func108, Tryz.ntmps108
  go_wp2_with fail
  show (Code.scope addScope).wp Tryz.prog _ _ _
  refine HK.out _ ?_ _ ?_
  ·intro a q1 pool1 hand1 w1 s1 s2 s3 ho
   obtain ⟨t, df⟩ := a
   dsimp only at s1 s2 s3
   subst s2
   show bodyPost Tryz.prog Tryz.f108 _ .ret ⟨t, []⟩ w1
   refine bodyPost_ret (v := handPtr hand1) ?_ rfl ⟨q1, pool1, hand1, rfl, ho⟩
   have s3' : t[14]?.getD undef = handPtr hand1 := by rw [← Array.getD_eq_getD_getElem?]; exact s3
   simp [results, Tryz.results108, go_sem, s3']
  ·constructor <;> rfl

end Go.Proofs.YtkbmigfkclnlaaaGreatDoor
namespace Go.Proofs.YtkbmigfkclnlaaaGreatDoor
open Go.RowKit Go.Rx

noncomputable def stBody : Code := (Tryz.f109.body.bind firstLoop).getD .skip

theorem th_info : (Tryz.prog.info? 209).map (fun i => (i.zero, i.size, i.bytes)) = some (some (.pointer none), 1, 8) := by kernel_rfl

theorem th_append (w : World) {ops : Array Oper} {rest : List Oper} {o : Oper} {a : Act} {Q : Exit → Act → World → Prop} (hgd : o.guard = none) (s x : Operand)
  (ho : o.op = .call { callee := .builtin .append, args := #[s, x], argTypes := #[164, 164] }) (base n : Nat) (v : Value) (xs : List Value) (hs : a.eval s = v)
  (hown : w.ownsRow base 209 1 v n xs) (ad : Addr) (u : Value) (hx : a.eval x = .slice (some ad) 1 1)
  (hu : w.cell? ad = some u) (h1 : u.oneCell' = true) (hn : n < 10000000000000) (hbase : base ≤ w.heap.size)
  (h : ∀ g cap w', w'.ownsRow base 209 1 (.slice (some ⟨g, 0, none⟩) (n + 1) cap) (n + 1) (xs ++ [u]) → w.grownBy w' v.ownBlock → (v.ownBlock = some g ∨ g = w.heap.size) → g < w'.heap.size → wpList Tryz.prog ops Q rest (a.put o.dst (.slice (some ⟨g, 0, none⟩) (n + 1) cap)) w') :
  wpList Tryz.prog ops Q (o :: rest) a w := by
 obtain ⟨i, hi, hz0, hz1, hz2⟩ := info_parts th_info
 refine wpList_append_lies w hgd s x 164 ho base 209 i _ 1 8 Tryz.underlying164 hi hz0 hz1 hz2 rfl (by omega) v n xs hs hown ad 1 1 [u] hx rfl ?_ ?_ (by omega) (by simp [maxLen]; omega) (by omega) hbase _ rfl h
 ·intro j u' hu'
  match j, hu' with
  | 0, hu' => simp at hu'; subst hu'; simpa [Addr.add] using hu
  | j + 1, hu' => simp at hu'
 ·intro u' hu'; simp at hu'; subst hu'; exact h1

structure HF (M ro qo pos npos : Nat) (c : Int) (F j : Nat) (a : Act) : Prop where
 size : a.tmps.size = 239
 defers : a.defers = []
 s0 : a.tmps.getD 0 undef = .pointer (some ⟨M, 0, none⟩)
 s1 : a.tmps.getD 1 undef = .pointer (some ⟨M, ro, none⟩)
 s2 : a.tmps.getD 2 undef = .pointer (some ⟨M, qo, none⟩)
 s3 : a.tmps.getD 3 undef = .int .i64 pos
 s4 : a.tmps.getD 4 undef = .int .i64 npos
 s5 : a.tmps.getD 5 undef = .int .i32 c
 s6 : a.tmps.getD 6 undef = .pointer (some ⟨F, 0, none⟩)
 s14 : a.tmps.getD 14 undef = .bool false
 s15 : a.tmps.getD 15 undef = .int .i64 j

theorem hf_lit {M ro qo pos npos : Nat} {c : Int} {F j : Nat} {a : Act} (h : HF M ro qo pos npos c F j a) : a = ⟨#[.pointer (some ⟨M, 0, none⟩), .pointer (some ⟨M, ro, none⟩), .pointer (some ⟨M, qo, none⟩), .int .i64 pos, .int .i64 npos, .int .i32 c, .pointer (some ⟨F, 0, none⟩), a.tmps.getD 7 undef, a.tmps.getD 8 undef, a.tmps.getD 9 undef, a.tmps.getD 10 undef, a.tmps.getD 11 undef, a.tmps.getD 12 undef, a.tmps.getD 13 undef, .bool false, .int .i64 j, a.tmps.getD 16 undef, a.tmps.getD 17 undef, a.tmps.getD 18 undef, a.tmps.getD 19 undef, a.tmps.getD 20 undef, a.tmps.getD 21 undef, a.tmps.getD 22 undef, a.tmps.getD 23 undef, a.tmps.getD 24 undef, a.tmps.getD 25 undef, a.tmps.getD 26 undef, a.tmps.getD 27 undef, a.tmps.getD 28 undef, a.tmps.getD 29 undef, a.tmps.getD 30 undef, a.tmps.getD 31 undef, a.tmps.getD 32 undef, a.tmps.getD 33 undef, a.tmps.getD 34 undef, a.tmps.getD 35 undef, a.tmps.getD 36 undef, a.tmps.getD 37 undef, a.tmps.getD 38 undef, a.tmps.getD 39 undef, a.tmps.getD 40 undef, a.tmps.getD 41 undef, a.tmps.getD 42 undef, a.tmps.getD 43 undef, a.tmps.getD 44 undef, a.tmps.getD 45 undef, a.tmps.getD 46 undef, a.tmps.getD 47 undef, a.tmps.getD 48 undef, a.tmps.getD 49 undef, a.tmps.getD 50 undef, a.tmps.getD 51 undef, a.tmps.getD 52 undef, a.tmps.getD 53 undef, a.tmps.getD 54 undef, a.tmps.getD 55 undef, a.tmps.getD 56 undef, a.tmps.getD 57 undef, a.tmps.getD 58 undef, a.tmps.getD 59 undef, a.tmps.getD 60 undef, a.tmps.getD 61 undef, a.tmps.getD 62 undef, a.tmps.getD 63 undef, a.tmps.getD 64 undef, a.tmps.getD 65 undef, a.tmps.getD 66 undef, a.tmps.getD 67 undef, a.tmps.getD 68 undef, a.tmps.getD 69 undef, a.tmps.getD 70 undef, a.tmps.getD 71 undef, a.tmps.getD 72 undef, a.tmps.getD 73 undef, a.tmps.getD 74 undef, a.tmps.getD 75 undef, a.tmps.getD 76 undef, a.tmps.getD 77 undef, a.tmps.getD 78 undef, a.tmps.getD 79 undef, a.tmps.getD 80 undef, a.tmps.getD 81 undef, a.tmps.getD 82 undef, a.tmps.getD 83 undef, a.tmps.getD 84 undef, a.tmps.getD 85 undef, a.tmps.getD 86 undef, a.tmps.getD 87 undef, a.tmps.getD 88 undef, a.tmps.getD 89 undef, a.tmps.getD 90 undef, a.tmps.getD 91 undef, a.tmps.getD 92 undef, a.tmps.getD 93 undef, a.tmps.getD 94 undef, a.tmps.getD 95 undef, a.tmps.getD 96 undef, a.tmps.getD 97 undef, a.tmps.getD 98 undef, a.tmps.getD 99 undef, a.tmps.getD 100 undef, a.tmps.getD 101 undef, a.tmps.getD 102 undef, a.tmps.getD 103 undef, a.tmps.getD 104 undef, a.tmps.getD 105 undef, a.tmps.getD 106 undef, a.tmps.getD 107 undef, a.tmps.getD 108 undef, a.tmps.getD 109 undef, a.tmps.getD 110 undef, a.tmps.getD 111 undef, a.tmps.getD 112 undef, a.tmps.getD 113 undef, a.tmps.getD 114 undef, a.tmps.getD 115 undef, a.tmps.getD 116 undef, a.tmps.getD 117 undef, a.tmps.getD 118 undef, a.tmps.getD 119 undef, a.tmps.getD 120 undef, a.tmps.getD 121 undef, a.tmps.getD 122 undef, a.tmps.getD 123 undef, a.tmps.getD 124 undef, a.tmps.getD 125 undef, a.tmps.getD 126 undef, a.tmps.getD 127 undef, a.tmps.getD 128 undef, a.tmps.getD 129 undef, a.tmps.getD 130 undef, a.tmps.getD 131 undef, a.tmps.getD 132 undef, a.tmps.getD 133 undef, a.tmps.getD 134 undef, a.tmps.getD 135 undef, a.tmps.getD 136 undef, a.tmps.getD 137 undef, a.tmps.getD 138 undef, a.tmps.getD 139 undef, a.tmps.getD 140 undef, a.tmps.getD 141 undef, a.tmps.getD 142 undef, a.tmps.getD 143 undef, a.tmps.getD 144 undef, a.tmps.getD 145 undef, a.tmps.getD 146 undef, a.tmps.getD 147 undef, a.tmps.getD 148 undef, a.tmps.getD 149 undef, a.tmps.getD 150 undef, a.tmps.getD 151 undef, a.tmps.getD 152 undef, a.tmps.getD 153 undef, a.tmps.getD 154 undef, a.tmps.getD 155 undef, a.tmps.getD 156 undef, a.tmps.getD 157 undef, a.tmps.getD 158 undef, a.tmps.getD 159 undef, a.tmps.getD 160 undef, a.tmps.getD 161 undef, a.tmps.getD 162 undef, a.tmps.getD 163 undef, a.tmps.getD 164 undef, a.tmps.getD 165 undef, a.tmps.getD 166 undef, a.tmps.getD 167 undef, a.tmps.getD 168 undef, a.tmps.getD 169 undef, a.tmps.getD 170 undef, a.tmps.getD 171 undef, a.tmps.getD 172 undef, a.tmps.getD 173 undef, a.tmps.getD 174 undef, a.tmps.getD 175 undef, a.tmps.getD 176 undef, a.tmps.getD 177 undef, a.tmps.getD 178 undef, a.tmps.getD 179 undef, a.tmps.getD 180 undef, a.tmps.getD 181 undef, a.tmps.getD 182 undef, a.tmps.getD 183 undef, a.tmps.getD 184 undef, a.tmps.getD 185 undef, a.tmps.getD 186 undef, a.tmps.getD 187 undef, a.tmps.getD 188 undef, a.tmps.getD 189 undef, a.tmps.getD 190 undef, a.tmps.getD 191 undef, a.tmps.getD 192 undef, a.tmps.getD 193 undef, a.tmps.getD 194 undef, a.tmps.getD 195 undef, a.tmps.getD 196 undef, a.tmps.getD 197 undef, a.tmps.getD 198 undef, a.tmps.getD 199 undef, a.tmps.getD 200 undef, a.tmps.getD 201 undef, a.tmps.getD 202 undef, a.tmps.getD 203 undef, a.tmps.getD 204 undef, a.tmps.getD 205 undef, a.tmps.getD 206 undef, a.tmps.getD 207 undef, a.tmps.getD 208 undef, a.tmps.getD 209 undef, a.tmps.getD 210 undef, a.tmps.getD 211 undef, a.tmps.getD 212 undef, a.tmps.getD 213 undef, a.tmps.getD 214 undef, a.tmps.getD 215 undef, a.tmps.getD 216 undef, a.tmps.getD 217 undef, a.tmps.getD 218 undef, a.tmps.getD 219 undef, a.tmps.getD 220 undef, a.tmps.getD 221 undef, a.tmps.getD 222 undef, a.tmps.getD 223 undef, a.tmps.getD 224 undef, a.tmps.getD 225 undef, a.tmps.getD 226 undef, a.tmps.getD 227 undef, a.tmps.getD 228 undef, a.tmps.getD 229 undef, a.tmps.getD 230 undef, a.tmps.getD 231 undef, a.tmps.getD 232 undef, a.tmps.getD 233 undef, a.tmps.getD 234 undef, a.tmps.getD 235 undef, a.tmps.getD 236 undef, a.tmps.getD 237 undef, a.tmps.getD 238 undef], []⟩ := by
 obtain ⟨t, df⟩ := a
 have e1 : t = ((List.range 239).map (lay t [(0, .pointer (some ⟨M, 0, none⟩)), (1, .pointer (some ⟨M, ro, none⟩)), (2, .pointer (some ⟨M, qo, none⟩)), (3, .int .i64 pos), (4, .int .i64 npos), (5, .int .i32 c), (6, .pointer (some ⟨F, 0, none⟩)), (14, .bool false), (15, .int .i64 j)])).toArray := by
  refine lay_eq t 239 h.size _ ?_
  intro p hp
  simp only [List.mem_cons, List.not_mem_nil, or_false] at hp
  rcases hp with rfl | rfl | rfl | rfl | rfl | rfl | rfl | rfl | rfl
  ·exact h.s0
  ·exact h.s1
  ·exact h.s2
  ·exact h.s3
  ·exact h.s4
  ·exact h.s5
  ·exact h.s6
  ·exact h.s14
  ·exact h.s15
 have e3 : df = [] := h.defers
 subst e3
 exact (congrArg (fun x => (⟨x, []⟩ : Act)) e1).trans (by kernel_rfl)

end Go.Proofs.YtkbmigfkclnlaaaGreatDoor
namespace Go.Proofs.YtkbmigfkclnlaaaGreatDoor
open Go.RowKit Go.Rx
attribute [local go_sem] Ext.cell Ext.frozen Ext.lt Ext.lt_add Ext.cell2 Ext.frozen2
attribute [local irreducible] wpQuiet

set_option maxRecDepth 1000000 in
set_option maxHeartbeats 4000000 in
theorem st_end (u7 u8 u9 u10 u11 u12 u13 u16 u17 u18 u19 u20 u21 u22 u23 u24 u25 u26 u27 u28 u29 u30 u31 u32 u33 u34 u35 u36 u37 u38 u39 u40 u41 u42 u43 u44 u45 u46 u47 u48 u49 u50 u51 u52 u53 u54 u55 u56 u57 u58 u59 u60 u61 u62 u63 u64 u65 u66 u67 u68 u69 u70 u71 u72 u73 u74 u75 u76 u77 u78 u79 u80 u81 u82 u83 u84 u85 u86 u87 u88 u89 u90 u91 u92 u93 u94 u95 u96 u97 u98 u99 u100 u101 u102 u103 u104 u105 u106 u107 u108 u109 u110 u111 u112 u113 u114 u115 u116 u117 u118 u119 u120 u121 u122 u123 u124 u125 u126 u127 u128 u129 u130 u131 u132 u133 u134 u135 u136 u137 u138 u139 u140 u141 u142 u143 u144 u145 u146 u147 u148 u149 u150 u151 u152 u153 u154 u155 u156 u157 u158 u159 u160 u161 u162 u163 u164 u165 u166 u167 u168 u169 u170 u171 u172 u173 u174 u175 u176 u177 u178 u179 u180 u181 u182 u183 u184 u185 u186 u187 u188 u189 u190 u191 u192 u193 u194 u195 u196 u197 u198 u199 u200 u201 u202 u203 u204 u205 u206 u207 u208 u209 u210 u211 u212 u213 u214 u215 u216 u217 u218 u219 u220 u221 u222 u223 u224 u225 u226 u227 u228 u229 u230 u231 u232 u233 u234 u235 u236 u237 u238 : Value) (M ro qo pos npos : Nat) (c : Int) (F j : Nat) (w : World) (Q : Exit → Act → World → Prop) (D n nq : Nat) (h1 : w.cell? ⟨M, ro + 1, none⟩ = some (.slice (some ⟨D, 0, none⟩) n nq)) (hnq : n ≤ 1000000) (hj : n ≤ j) (hgo : ∀ a, HF M ro qo pos npos c F j a → Q (.exit 0) a w) : stBody.wp Tryz.prog Q ⟨#[.pointer (some ⟨M, 0, none⟩), .pointer (some ⟨M, ro, none⟩), .pointer (some ⟨M, qo, none⟩), .int .i64 pos, .int .i64 npos, .int .i32 c, .pointer (some ⟨F, 0, none⟩), u7, u8, u9, u10, u11, u12, u13, .bool false, .int .i64 j, u16, u17, u18, u19, u20, u21, u22, u23, u24, u25, u26, u27, u28, u29, u30, u31, u32, u33, u34, u35, u36, u37, u38, u39, u40, u41, u42, u43, u44, u45, u46, u47, u48, u49, u50, u51, u52, u53, u54, u55, u56, u57, u58, u59, u60, u61, u62, u63, u64, u65, u66, u67, u68, u69, u70, u71, u72, u73, u74, u75, u76, u77, u78, u79, u80, u81, u82, u83, u84, u85, u86, u87, u88, u89, u90, u91, u92, u93, u94, u95, u96, u97, u98, u99, u100, u101, u102, u103, u104, u105, u106, u107, u108, u109, u110, u111, u112, u113, u114, u115, u116, u117, u118, u119, u120, u121, u122, u123, u124, u125, u126, u127, u128, u129, u130, u131, u132, u133, u134, u135, u136, u137, u138, u139, u140, u141, u142, u143, u144, u145, u146, u147, u148, u149, u150, u151, u152, u153, u154, u155, u156, u157, u158, u159, u160, u161, u162, u163, u164, u165, u166, u167, u168, u169, u170, u171, u172, u173, u174, u175, u176, u177, u178, u179, u180, u181, u182, u183, u184, u185, u186, u187, u188, u189, u190, u191, u192, u193, u194, u195, u196, u197, u198, u199, u200, u201, u202, u203, u204, u205, u206, u207, u208, u209, u210, u211, u212, u213, u214, u215, u216, u217, u218, u219, u220, u221, u222, u223, u224, u225, u226, u227, u228, u229, u230, u231, u232, u233, u234, u235, u236, u237, u238], []⟩ w := by
 conv => arg 2; whnf
 have hj' : ¬ (j : Int) < (n : Int) := by omega
 have HG := Lib.hid hgo
 clear hgo
 go_wp2_with fail
 exact HG.out _ (by constructor <;> rfl)

set_option maxRecDepth 1000000 in
set_option maxHeartbeats 4000000 in
theorem st_nil (u7 u8 u9 u10 u11 u12 u13 u16 u17 u18 u19 u20 u21 u22 u23 u24 u25 u26 u27 u28 u29 u30 u31 u32 u33 u34 u35 u36 u37 u38 u39 u40 u41 u42 u43 u44 u45 u46 u47 u48 u49 u50 u51 u52 u53 u54 u55 u56 u57 u58 u59 u60 u61 u62 u63 u64 u65 u66 u67 u68 u69 u70 u71 u72 u73 u74 u75 u76 u77 u78 u79 u80 u81 u82 u83 u84 u85 u86 u87 u88 u89 u90 u91 u92 u93 u94 u95 u96 u97 u98 u99 u100 u101 u102 u103 u104 u105 u106 u107 u108 u109 u110 u111 u112 u113 u114 u115 u116 u117 u118 u119 u120 u121 u122 u123 u124 u125 u126 u127 u128 u129 u130 u131 u132 u133 u134 u135 u136 u137 u138 u139 u140 u141 u142 u143 u144 u145 u146 u147 u148 u149 u150 u151 u152 u153 u154 u155 u156 u157 u158 u159 u160 u161 u162 u163 u164 u165 u166 u167 u168 u169 u170 u171 u172 u173 u174 u175 u176 u177 u178 u179 u180 u181 u182 u183 u184 u185 u186 u187 u188 u189 u190 u191 u192 u193 u194 u195 u196 u197 u198 u199 u200 u201 u202 u203 u204 u205 u206 u207 u208 u209 u210 u211 u212 u213 u214 u215 u216 u217 u218 u219 u220 u221 u222 u223 u224 u225 u226 u227 u228 u229 u230 u231 u232 u233 u234 u235 u236 u237 u238 : Value) (M ro qo pos npos : Nat) (c : Int) (F j : Nat) (w : World) (Q : Exit → Act → World → Prop) (D n nq : Nat) (h1 : w.cell? ⟨M, ro + 1, none⟩ = some (.slice (some ⟨D, 0, none⟩) n nq)) (hnq : n ≤ 1000000) (hj : j < n) (hD : w.cell? ⟨D, j * 2 + 1, none⟩ = some (.pointer none)) (hgo : ∀ a, HF M ro qo pos npos c F (j + 1) a → Q .normal a w) : stBody.wp Tryz.prog Q ⟨#[.pointer (some ⟨M, 0, none⟩), .pointer (some ⟨M, ro, none⟩), .pointer (some ⟨M, qo, none⟩), .int .i64 pos, .int .i64 npos, .int .i32 c, .pointer (some ⟨F, 0, none⟩), u7, u8, u9, u10, u11, u12, u13, .bool false, .int .i64 j, u16, u17, u18, u19, u20, u21, u22, u23, u24, u25, u26, u27, u28, u29, u30, u31, u32, u33, u34, u35, u36, u37, u38, u39, u40, u41, u42, u43, u44, u45, u46, u47, u48, u49, u50, u51, u52, u53, u54, u55, u56, u57, u58, u59, u60, u61, u62, u63, u64, u65, u66, u67, u68, u69, u70, u71, u72, u73, u74, u75, u76, u77, u78, u79, u80, u81, u82, u83, u84, u85, u86, u87, u88, u89, u90, u91, u92, u93, u94, u95, u96, u97, u98, u99, u100, u101, u102, u103, u104, u105, u106, u107, u108, u109, u110, u111, u112, u113, u114, u115, u116, u117, u118, u119, u120, u121, u122, u123, u124, u125, u126, u127, u128, u129, u130, u131, u132, u133, u134, u135, u136, u137, u138, u139, u140, u141, u142, u143, u144, u145, u146, u147, u148, u149, u150, u151, u152, u153, u154, u155, u156, u157, u158, u159, u160, u161, u162, u163, u164, u165, u166, u167, u168, u169, u170, u171, u172, u173, u174, u175, u176, u177, u178, u179, u180, u181, u182, u183, u184, u185, u186, u187, u188, u189, u190, u191, u192, u193, u194, u195, u196, u197, u198, u199, u200, u201, u202, u203, u204, u205, u206, u207, u208, u209, u210, u211, u212, u213, u214, u215, u216, u217, u218, u219, u220, u221, u222, u223, u224, u225, u226, u227, u228, u229, u230, u231, u232, u233, u234, u235, u236, u237, u238], []⟩ w := by
 conv => arg 2; whnf
 have hj' : (j : Int) < (n : Int) := by omega
 have HG := Lib.hid hgo
 clear hgo
 go_wp2_with fail
 exact HG.out _ (by constructor <;> rfl)

end Go.Proofs.YtkbmigfkclnlaaaGreatDoor
namespace Go.Proofs.YtkbmigfkclnlaaaGreatDoor
open Go.RowKit Go.Rx
attribute [local go_sem] Ext.cell Ext.frozen Ext.lt Ext.lt_add Ext.cell2 Ext.frozen2
attribute [local irreducible] wpQuiet

theorem ownsRow_ext {w : World} {base : Nat} {e : TypeId} {size : Nat} {v : Value} {n : Nat} {xs : List Value} (h : w.ownsRow base e size v n xs) (y : Ext w) : y.now.ownsRow base e size v n xs :=
 h.kept (row := none) ⟨y.below.os, y.below.tape, y.below.output, y.below.size, fun j hj _ => y.below.block j hj⟩ (by cases v.ownBlock <;> simp)

set_option maxRecDepth 1000000 in
set_option maxHeartbeats 4000000 in
theorem st_no7 (u7 u8 u9 u10 u11 u12 u13 u16 u17 u18 u19 u20 u21 u22 u23 u24 u25 u26 u27 u28 u29 u30 u31 u32 u33 u34 u35 u36 u37 u38 u39 u40 u41 u42 u43 u44 u45 u46 u47 u48 u49 u50 u51 u52 u53 u54 u55 u56 u57 u58 u59 u60 u61 u62 u63 u64 u65 u66 u67 u68 u69 u70 u71 u72 u73 u74 u75 u76 u77 u78 u79 u80 u81 u82 u83 u84 u85 u86 u87 u88 u89 u90 u91 u92 u93 u94 u95 u96 u97 u98 u99 u100 u101 u102 u103 u104 u105 u106 u107 u108 u109 u110 u111 u112 u113 u114 u115 u116 u117 u118 u119 u120 u121 u122 u123 u124 u125 u126 u127 u128 u129 u130 u131 u132 u133 u134 u135 u136 u137 u138 u139 u140 u141 u142 u143 u144 u145 u146 u147 u148 u149 u150 u151 u152 u153 u154 u155 u156 u157 u158 u159 u160 u161 u162 u163 u164 u165 u166 u167 u168 u169 u170 u171 u172 u173 u174 u175 u176 u177 u178 u179 u180 u181 u182 u183 u184 u185 u186 u187 u188 u189 u190 u191 u192 u193 u194 u195 u196 u197 u198 u199 u200 u201 u202 u203 u204 u205 u206 u207 u208 u209 u210 u211 u212 u213 u214 u215 u216 u217 u218 u219 u220 u221 u222 u223 u224 u225 u226 u227 u228 u229 u230 u231 u232 u233 u234 u235 u236 u237 u238 : Value) (M ro qo pos npos : Nat) (c : Int) (F j : Nat) (w : World) (Q : Exit → Act → World → Prop) (D n nq : Nat) (h1 : w.cell? ⟨M, ro + 1, none⟩ = some (.slice (some ⟨D, 0, none⟩) n nq)) (hnq : n ≤ 1000000) (T C nc : Nat) (hj : j < n) (hD : w.cell? ⟨D, j * 2 + 1, none⟩ = some (.pointer (some ⟨T, 0, none⟩))) (hDl : D < w.heap.size) (N R PR I np : Nat) (pg : Nat → Inst) (hP : ProgAt w N R PR I np pg) (pc : Nat) (hp0 : 0 < pc) (hpc : pc < np) (hT0 : w.cell? ⟨T, 0, none⟩ = some (.pointer (some ⟨I, pc * 4, none⟩))) (hT1 : w.cell? ⟨T, 1, none⟩ = some (.slice (some ⟨C, 0, none⟩) nc nc)) (hTl : T < w.heap.size) (hMl : M < w.heap.size) (hop : (pg pc).op = 7) (hmr : ∀ y : Ext w, Calls Tryz.prog 99 #[.pointer (some ⟨I, pc * 4, none⟩), .int .i32 c] y.now fun e w1 => e = .returned (.bool false) ∧ w1 = y.now) (base k : Nat) (pv : Value) (xs : List Value) (h6 : w.cell? ⟨M, 6, none⟩ = some pv) (f6 : w.frozen? ⟨M, 6, none⟩ = false) (hown : w.ownsRow base 209 1 pv k xs) (hk : k < 9990000000000) (hbase : base ≤ w.heap.size) (hpM : pv.ownBlock ≠ some M) (hgo : ∀ a g cap w1, HF M ro qo pos npos c F (j + 1) a → w1.ownsRow base 209 1 (.slice (some ⟨g, 0, none⟩) (k + 1) cap) (k + 1) (xs ++ [.pointer (some ⟨T, 0, none⟩)]) → (∃ y : Ext w, y.now.grownBy w1 pv.ownBlock) → (pv.ownBlock = some g ∨ w.heap.size ≤ g) → g < w1.heap.size → Q .normal a (w1.setCell ⟨M, 6, none⟩ (.slice (some ⟨g, 0, none⟩) (k + 1) cap))) : stBody.wp Tryz.prog Q ⟨#[.pointer (some ⟨M, 0, none⟩), .pointer (some ⟨M, ro, none⟩), .pointer (some ⟨M, qo, none⟩), .int .i64 pos, .int .i64 npos, .int .i32 c, .pointer (some ⟨F, 0, none⟩), u7, u8, u9, u10, u11, u12, u13, .bool false, .int .i64 j, u16, u17, u18, u19, u20, u21, u22, u23, u24, u25, u26, u27, u28, u29, u30, u31, u32, u33, u34, u35, u36, u37, u38, u39, u40, u41, u42, u43, u44, u45, u46, u47, u48, u49, u50, u51, u52, u53, u54, u55, u56, u57, u58, u59, u60, u61, u62, u63, u64, u65, u66, u67, u68, u69, u70, u71, u72, u73, u74, u75, u76, u77, u78, u79, u80, u81, u82, u83, u84, u85, u86, u87, u88, u89, u90, u91, u92, u93, u94, u95, u96, u97, u98, u99, u100, u101, u102, u103, u104, u105, u106, u107, u108, u109, u110, u111, u112, u113, u114, u115, u116, u117, u118, u119, u120, u121, u122, u123, u124, u125, u126, u127, u128, u129, u130, u131, u132, u133, u134, u135, u136, u137, u138, u139, u140, u141, u142, u143, u144, u145, u146, u147, u148, u149, u150, u151, u152, u153, u154, u155, u156, u157, u158, u159, u160, u161, u162, u163, u164, u165, u166, u167, u168, u169, u170, u171, u172, u173, u174, u175, u176, u177, u178, u179, u180, u181, u182, u183, u184, u185, u186, u187, u188, u189, u190, u191, u192, u193, u194, u195, u196, u197, u198, u199, u200, u201, u202, u203, u204, u205, u206, u207, u208, u209, u210, u211, u212, u213, u214, u215, u216, u217, u218, u219, u220, u221, u222, u223, u224, u225, u226, u227, u228, u229, u230, u231, u232, u233, u234, u235, u236, u237, u238], []⟩ w := by
 conv => arg 2; whnf
 have hj' : (j : Int) < (n : Int) := by omega
 have hPlt := hP.lt
 have hPle := hP.le
 have hIl : I < w.heap.size := by omega
 have hopi := hP.op pc hp0 hpc
 have hout := hP.out pc hp0 hpc
 rw [hop] at hopi
 have HG := Lib.hid hgo
 have HO := Lib.hid hown
 clear hgo hown
 go_wp2_with fail
 refine wp_region_ext rfl (by kernel_rfl) ?_
 refine quiet_move _ rfl (by kernel_rfl) _ rfl ?_
 simp only [Act.put, List.setIfInBounds_toArray, List.set_cons_succ, List.set_cons_zero]
 refine quiet_move _ rfl (by kernel_rfl) _ rfl ?_
 simp only [Act.put, List.setIfInBounds_toArray, List.set_cons_succ, List.set_cons_zero]
 refine quiet_out (by kernel_rfl) ?_
 simp only [Act.put, List.setIfInBounds_toArray, List.set_cons_succ, List.set_cons_zero]
 refine quiet_out (by kernel_rfl) ?_
 simp only [Act.put, List.setIfInBounds_toArray, List.set_cons_succ, List.set_cons_zero]
 refine quiet_out (by kernel_rfl) ?_
 simp only [Act.put, List.setIfInBounds_toArray, List.set_cons_succ, List.set_cons_zero]
 refine quiet_out (by kernel_rfl) ?_
 simp only [Act.put, List.setIfInBounds_toArray, List.set_cons_succ, List.set_cons_zero]
 refine quiet_pick_no _ _ _ rfl (by kernel_rfl) rfl _ rfl ?_
 simp only [Act.put, List.setIfInBounds_toArray, List.set_cons_succ, List.set_cons_zero]
 refine quiet_move _ rfl (by kernel_rfl) _ rfl ?_
 simp only [Act.put, List.setIfInBounds_toArray, List.set_cons_succ, List.set_cons_zero]
 refine quiet_out (by kernel_rfl) ?_
 simp only [Act.put, List.setIfInBounds_toArray, List.set_cons_succ, List.set_cons_zero]
 refine quiet_out (by kernel_rfl) ?_
 simp only [Act.put, List.setIfInBounds_toArray, List.set_cons_succ, List.set_cons_zero]
 refine quiet_out (by kernel_rfl) ?_
 simp only [Act.put, List.setIfInBounds_toArray, List.set_cons_succ, List.set_cons_zero]
 refine quiet_out (by kernel_rfl) ?_
 simp only [Act.put, List.setIfInBounds_toArray, List.set_cons_succ, List.set_cons_zero]
 refine quiet_out (by kernel_rfl) ?_
 simp only [Act.put, List.setIfInBounds_toArray, List.set_cons_succ, List.set_cons_zero]
 refine quiet_out (by kernel_rfl) ?_
 simp only [Act.put, List.setIfInBounds_toArray, List.set_cons_succ, List.set_cons_zero]
 refine quiet_pick_no _ _ _ rfl (by kernel_rfl) rfl _ rfl ?_
 simp only [Act.put, List.setIfInBounds_toArray, List.set_cons_succ, List.set_cons_zero]
 refine quiet_move _ rfl (by kernel_rfl) _ rfl ?_
 simp only [Act.put, List.setIfInBounds_toArray, List.set_cons_succ, List.set_cons_zero]
 refine quiet_out (by kernel_rfl) ?_
 simp only [Act.put, List.setIfInBounds_toArray, List.set_cons_succ, List.set_cons_zero]
 refine quiet_out (by kernel_rfl) ?_
 simp only [Act.put, List.setIfInBounds_toArray, List.set_cons_succ, List.set_cons_zero]
 refine quiet_out (by kernel_rfl) ?_
 simp only [Act.put, List.setIfInBounds_toArray, List.set_cons_succ, List.set_cons_zero]
 refine quiet_out (by kernel_rfl) ?_
 simp only [Act.put, List.setIfInBounds_toArray, List.set_cons_succ, List.set_cons_zero]
 refine quiet_out (by kernel_rfl) ?_
 simp only [Act.put, List.setIfInBounds_toArray, List.set_cons_succ, List.set_cons_zero]
 refine quiet_out (by kernel_rfl) ?_
 simp only [Act.put, List.setIfInBounds_toArray, List.set_cons_succ, List.set_cons_zero]
 refine quiet_out (by kernel_rfl) ?_
 simp only [Act.put, List.setIfInBounds_toArray, List.set_cons_succ, List.set_cons_zero]
 refine quiet_out (by kernel_rfl) ?_
 simp only [Act.put, List.setIfInBounds_toArray, List.set_cons_succ, List.set_cons_zero]
 refine quiet_out (by kernel_rfl) ?_
 simp only [Act.put, List.setIfInBounds_toArray, List.set_cons_succ, List.set_cons_zero]
 refine quiet_out (by kernel_rfl) ?_
 simp only [Act.put, List.setIfInBounds_toArray, List.set_cons_succ, List.set_cons_zero]
 refine quiet_out (by kernel_rfl) ?_
 simp only [Act.put, List.setIfInBounds_toArray, List.set_cons_succ, List.set_cons_zero]
 refine quiet_out (by kernel_rfl) ?_
 simp only [Act.put, List.setIfInBounds_toArray, List.set_cons_succ, List.set_cons_zero]
 refine quiet_out (by kernel_rfl) ?_
 simp only [Act.put, List.setIfInBounds_toArray, List.set_cons_succ, List.set_cons_zero]
 refine quiet_pick_no _ _ _ rfl (by kernel_rfl) rfl _ rfl ?_
 simp only [Act.put, List.setIfInBounds_toArray, List.set_cons_succ, List.set_cons_zero]
 refine wpQuiet_nil ?_
 rintro w' ⟨y, rfl⟩
 have kI := hopi
 have y6 : y.now.cell? ⟨M, 6, none⟩ = some pv := (y.cell _ _ hMl).trans h6
 have yf6 : y.now.frozen? ⟨M, 6, none⟩ = false := (y.frozen _ _ hMl).trans f6
 have yM := y.lt _ hMl
 have hown1 := ownsRow_ext HO.out y
 have hMne : M ≠ y.now.heap.size := by omega
 have hmr1 := hmr y
 go_wp2_with (first | (go_at_call 99; (with_reducible refine hmr1.mono ?_); rintro e w1 ⟨rfl, rfl⟩) | (at_builtin; refine th_append _ rfl _ _ rfl base k _ xs rfl (hown1.alloc _) ⟨y.now.heap.size, 0, none⟩ (.pointer (some ⟨T, 0, none⟩)) rfl (by simp) rfl (by omega) (by have := y.le; simp; omega) ?_))
 intro g cap w1 hw1 hgr hgg hgl
 have hkM : w1.heap[M]? = (y.now.alloc (Obj.cells #[Value.pointer (some ⟨T, 0, none⟩)] 209)).heap[M]? := hgr.block M (by simp; omega) (fun e => hpM e.symm)
 have z6 : w1.cell? ⟨M, 6, none⟩ = some pv := by rw [World.cell?_of_block hkM, ← y6]; exact World.cell?_of_block (Below.heap_alloc _ _ _ yM)
 have zf6 : w1.frozen? ⟨M, 6, none⟩ = false := by rw [World.frozen?_of_block hkM, ← yf6]; exact World.frozen?_of_block (Below.heap_alloc _ _ _ yM)
 have zM : M < w1.heap.size := by have := hgr.size; simp at this; omega
 have HW := Lib.hid hw1
 have HR := Lib.hid hgr
 clear hw1 hgr
 go_wp2_with fail
 refine HG.out _ g cap w1 (by constructor <;> rfl) HW.out ⟨y.trans (Ext.one _ _), HR.out⟩ ?_ hgl
 rcases hgg with h | h
 ·exact .inl h
 ·exact .inr (by have := y.le; (try simp at h); omega)

set_option maxRecDepth 1000000 in
set_option maxHeartbeats 4000000 in
theorem st_no8 (u7 u8 u9 u10 u11 u12 u13 u16 u17 u18 u19 u20 u21 u22 u23 u24 u25 u26 u27 u28 u29 u30 u31 u32 u33 u34 u35 u36 u37 u38 u39 u40 u41 u42 u43 u44 u45 u46 u47 u48 u49 u50 u51 u52 u53 u54 u55 u56 u57 u58 u59 u60 u61 u62 u63 u64 u65 u66 u67 u68 u69 u70 u71 u72 u73 u74 u75 u76 u77 u78 u79 u80 u81 u82 u83 u84 u85 u86 u87 u88 u89 u90 u91 u92 u93 u94 u95 u96 u97 u98 u99 u100 u101 u102 u103 u104 u105 u106 u107 u108 u109 u110 u111 u112 u113 u114 u115 u116 u117 u118 u119 u120 u121 u122 u123 u124 u125 u126 u127 u128 u129 u130 u131 u132 u133 u134 u135 u136 u137 u138 u139 u140 u141 u142 u143 u144 u145 u146 u147 u148 u149 u150 u151 u152 u153 u154 u155 u156 u157 u158 u159 u160 u161 u162 u163 u164 u165 u166 u167 u168 u169 u170 u171 u172 u173 u174 u175 u176 u177 u178 u179 u180 u181 u182 u183 u184 u185 u186 u187 u188 u189 u190 u191 u192 u193 u194 u195 u196 u197 u198 u199 u200 u201 u202 u203 u204 u205 u206 u207 u208 u209 u210 u211 u212 u213 u214 u215 u216 u217 u218 u219 u220 u221 u222 u223 u224 u225 u226 u227 u228 u229 u230 u231 u232 u233 u234 u235 u236 u237 u238 : Value) (M ro qo pos npos : Nat) (c : Int) (F j : Nat) (w : World) (Q : Exit → Act → World → Prop) (D n nq : Nat) (h1 : w.cell? ⟨M, ro + 1, none⟩ = some (.slice (some ⟨D, 0, none⟩) n nq)) (hnq : n ≤ 1000000) (T C nc : Nat) (hj : j < n) (hD : w.cell? ⟨D, j * 2 + 1, none⟩ = some (.pointer (some ⟨T, 0, none⟩))) (hDl : D < w.heap.size) (N R PR I np : Nat) (pg : Nat → Inst) (hP : ProgAt w N R PR I np pg) (pc : Nat) (hp0 : 0 < pc) (hpc : pc < np) (hT0 : w.cell? ⟨T, 0, none⟩ = some (.pointer (some ⟨I, pc * 4, none⟩))) (hT1 : w.cell? ⟨T, 1, none⟩ = some (.slice (some ⟨C, 0, none⟩) nc nc)) (hTl : T < w.heap.size) (hMl : M < w.heap.size) (hop : (pg pc).op = 8) (rb cr : Nat) (x : Int) (h3 : w.cell? ⟨I, pc * 4 + 3, none⟩ = some (.slice (some ⟨rb, 0, none⟩) 1 cr)) (hrx : w.cell? ⟨rb, 0, none⟩ = some (.int .i32 x)) (hrb : rb < w.heap.size) (hcx : c ≠ x) (base k : Nat) (pv : Value) (xs : List Value) (h6 : w.cell? ⟨M, 6, none⟩ = some pv) (f6 : w.frozen? ⟨M, 6, none⟩ = false) (hown : w.ownsRow base 209 1 pv k xs) (hk : k < 9990000000000) (hbase : base ≤ w.heap.size) (hpM : pv.ownBlock ≠ some M) (hgo : ∀ a g cap w1, HF M ro qo pos npos c F (j + 1) a → w1.ownsRow base 209 1 (.slice (some ⟨g, 0, none⟩) (k + 1) cap) (k + 1) (xs ++ [.pointer (some ⟨T, 0, none⟩)]) → (∃ y : Ext w, y.now.grownBy w1 pv.ownBlock) → (pv.ownBlock = some g ∨ w.heap.size ≤ g) → g < w1.heap.size → Q .normal a (w1.setCell ⟨M, 6, none⟩ (.slice (some ⟨g, 0, none⟩) (k + 1) cap))) : stBody.wp Tryz.prog Q ⟨#[.pointer (some ⟨M, 0, none⟩), .pointer (some ⟨M, ro, none⟩), .pointer (some ⟨M, qo, none⟩), .int .i64 pos, .int .i64 npos, .int .i32 c, .pointer (some ⟨F, 0, none⟩), u7, u8, u9, u10, u11, u12, u13, .bool false, .int .i64 j, u16, u17, u18, u19, u20, u21, u22, u23, u24, u25, u26, u27, u28, u29, u30, u31, u32, u33, u34, u35, u36, u37, u38, u39, u40, u41, u42, u43, u44, u45, u46, u47, u48, u49, u50, u51, u52, u53, u54, u55, u56, u57, u58, u59, u60, u61, u62, u63, u64, u65, u66, u67, u68, u69, u70, u71, u72, u73, u74, u75, u76, u77, u78, u79, u80, u81, u82, u83, u84, u85, u86, u87, u88, u89, u90, u91, u92, u93, u94, u95, u96, u97, u98, u99, u100, u101, u102, u103, u104, u105, u106, u107, u108, u109, u110, u111, u112, u113, u114, u115, u116, u117, u118, u119, u120, u121, u122, u123, u124, u125, u126, u127, u128, u129, u130, u131, u132, u133, u134, u135, u136, u137, u138, u139, u140, u141, u142, u143, u144, u145, u146, u147, u148, u149, u150, u151, u152, u153, u154, u155, u156, u157, u158, u159, u160, u161, u162, u163, u164, u165, u166, u167, u168, u169, u170, u171, u172, u173, u174, u175, u176, u177, u178, u179, u180, u181, u182, u183, u184, u185, u186, u187, u188, u189, u190, u191, u192, u193, u194, u195, u196, u197, u198, u199, u200, u201, u202, u203, u204, u205, u206, u207, u208, u209, u210, u211, u212, u213, u214, u215, u216, u217, u218, u219, u220, u221, u222, u223, u224, u225, u226, u227, u228, u229, u230, u231, u232, u233, u234, u235, u236, u237, u238], []⟩ w := by
 conv => arg 2; whnf
 have hj' : (j : Int) < (n : Int) := by omega
 have hPlt := hP.lt
 have hPle := hP.le
 have hIl : I < w.heap.size := by omega
 have hopi := hP.op pc hp0 hpc
 have hout := hP.out pc hp0 hpc
 rw [hop] at hopi
 have HG := Lib.hid hgo
 have HO := Lib.hid hown
 clear hgo hown
 go_wp2_with fail
 refine wp_region_ext rfl (by kernel_rfl) ?_
 refine quiet_move _ rfl (by kernel_rfl) _ rfl ?_
 simp only [Act.put, List.setIfInBounds_toArray, List.set_cons_succ, List.set_cons_zero]
 refine quiet_move _ rfl (by kernel_rfl) _ rfl ?_
 simp only [Act.put, List.setIfInBounds_toArray, List.set_cons_succ, List.set_cons_zero]
 refine quiet_out (by kernel_rfl) ?_
 simp only [Act.put, List.setIfInBounds_toArray, List.set_cons_succ, List.set_cons_zero]
 refine quiet_out (by kernel_rfl) ?_
 simp only [Act.put, List.setIfInBounds_toArray, List.set_cons_succ, List.set_cons_zero]
 refine quiet_out (by kernel_rfl) ?_
 simp only [Act.put, List.setIfInBounds_toArray, List.set_cons_succ, List.set_cons_zero]
 refine quiet_out (by kernel_rfl) ?_
 simp only [Act.put, List.setIfInBounds_toArray, List.set_cons_succ, List.set_cons_zero]
 refine quiet_pick_no _ _ _ rfl (by kernel_rfl) rfl _ rfl ?_
 simp only [Act.put, List.setIfInBounds_toArray, List.set_cons_succ, List.set_cons_zero]
 refine quiet_move _ rfl (by kernel_rfl) _ rfl ?_
 simp only [Act.put, List.setIfInBounds_toArray, List.set_cons_succ, List.set_cons_zero]
 refine quiet_out (by kernel_rfl) ?_
 simp only [Act.put, List.setIfInBounds_toArray, List.set_cons_succ, List.set_cons_zero]
 refine quiet_out (by kernel_rfl) ?_
 simp only [Act.put, List.setIfInBounds_toArray, List.set_cons_succ, List.set_cons_zero]
 refine quiet_out (by kernel_rfl) ?_
 simp only [Act.put, List.setIfInBounds_toArray, List.set_cons_succ, List.set_cons_zero]
 refine quiet_out (by kernel_rfl) ?_
 simp only [Act.put, List.setIfInBounds_toArray, List.set_cons_succ, List.set_cons_zero]
 refine quiet_out (by kernel_rfl) ?_
 simp only [Act.put, List.setIfInBounds_toArray, List.set_cons_succ, List.set_cons_zero]
 refine quiet_out (by kernel_rfl) ?_
 simp only [Act.put, List.setIfInBounds_toArray, List.set_cons_succ, List.set_cons_zero]
 refine quiet_pick_no _ _ _ rfl (by kernel_rfl) rfl _ rfl ?_
 simp only [Act.put, List.setIfInBounds_toArray, List.set_cons_succ, List.set_cons_zero]
 refine quiet_move _ rfl (by kernel_rfl) _ rfl ?_
 simp only [Act.put, List.setIfInBounds_toArray, List.set_cons_succ, List.set_cons_zero]
 refine quiet_out (by kernel_rfl) ?_
 simp only [Act.put, List.setIfInBounds_toArray, List.set_cons_succ, List.set_cons_zero]
 refine quiet_out (by kernel_rfl) ?_
 simp only [Act.put, List.setIfInBounds_toArray, List.set_cons_succ, List.set_cons_zero]
 refine quiet_out (by kernel_rfl) ?_
 simp only [Act.put, List.setIfInBounds_toArray, List.set_cons_succ, List.set_cons_zero]
 refine quiet_out (by kernel_rfl) ?_
 simp only [Act.put, List.setIfInBounds_toArray, List.set_cons_succ, List.set_cons_zero]
 refine quiet_out (by kernel_rfl) ?_
 simp only [Act.put, List.setIfInBounds_toArray, List.set_cons_succ, List.set_cons_zero]
 refine quiet_out (by kernel_rfl) ?_
 simp only [Act.put, List.setIfInBounds_toArray, List.set_cons_succ, List.set_cons_zero]
 refine quiet_out (by kernel_rfl) ?_
 simp only [Act.put, List.setIfInBounds_toArray, List.set_cons_succ, List.set_cons_zero]
 refine quiet_out (by kernel_rfl) ?_
 simp only [Act.put, List.setIfInBounds_toArray, List.set_cons_succ, List.set_cons_zero]
 refine quiet_out (by kernel_rfl) ?_
 simp only [Act.put, List.setIfInBounds_toArray, List.set_cons_succ, List.set_cons_zero]
 refine quiet_out (by kernel_rfl) ?_
 simp only [Act.put, List.setIfInBounds_toArray, List.set_cons_succ, List.set_cons_zero]
 refine quiet_out (by kernel_rfl) ?_
 simp only [Act.put, List.setIfInBounds_toArray, List.set_cons_succ, List.set_cons_zero]
 refine quiet_out (by kernel_rfl) ?_
 simp only [Act.put, List.setIfInBounds_toArray, List.set_cons_succ, List.set_cons_zero]
 refine quiet_out (by kernel_rfl) ?_
 simp only [Act.put, List.setIfInBounds_toArray, List.set_cons_succ, List.set_cons_zero]
 refine quiet_pick_no _ _ _ rfl (by kernel_rfl) rfl _ rfl ?_
 simp only [Act.put, List.setIfInBounds_toArray, List.set_cons_succ, List.set_cons_zero]
 refine wpQuiet_nil ?_
 rintro w' ⟨y, rfl⟩
 have kI := hopi
 have y6 : y.now.cell? ⟨M, 6, none⟩ = some pv := (y.cell _ _ hMl).trans h6
 have yf6 : y.now.frozen? ⟨M, 6, none⟩ = false := (y.frozen _ _ hMl).trans f6
 have yM := y.lt _ hMl
 have hown1 := ownsRow_ext HO.out y
 have hMne : M ≠ y.now.heap.size := by omega
 have y3 : y.now.cell? ⟨I, pc * 4 + 3, none⟩ = some (.slice (some ⟨rb, 0, none⟩) 1 cr) := (y.cell _ _ hIl).trans h3
 have yx : y.now.cell? ⟨rb, 0, none⟩ = some (.int .i32 x) := (y.cell _ _ hrb).trans hrx
 have hcx' : ¬ c = x := hcx
 go_wp2_with ((at_builtin; refine th_append _ rfl _ _ rfl base k _ xs rfl (hown1.alloc _) ⟨y.now.heap.size, 0, none⟩ (.pointer (some ⟨T, 0, none⟩)) rfl (by simp) rfl (by omega) (by have := y.le; simp; omega) ?_))
 intro g cap w1 hw1 hgr hgg hgl
 have hkM : w1.heap[M]? = (y.now.alloc (Obj.cells #[Value.pointer (some ⟨T, 0, none⟩)] 209)).heap[M]? := hgr.block M (by simp; omega) (fun e => hpM e.symm)
 have z6 : w1.cell? ⟨M, 6, none⟩ = some pv := by rw [World.cell?_of_block hkM, ← y6]; exact World.cell?_of_block (Below.heap_alloc _ _ _ yM)
 have zf6 : w1.frozen? ⟨M, 6, none⟩ = false := by rw [World.frozen?_of_block hkM, ← yf6]; exact World.frozen?_of_block (Below.heap_alloc _ _ _ yM)
 have zM : M < w1.heap.size := by have := hgr.size; simp at this; omega
 have HW := Lib.hid hw1
 have HR := Lib.hid hgr
 clear hw1 hgr
 go_wp2_with fail
 refine HG.out _ g cap w1 (by constructor <;> rfl) HW.out ⟨y.trans (Ext.one _ _), HR.out⟩ ?_ hgl
 rcases hgg with h | h
 ·exact .inl h
 ·exact .inr (by have := y.le; (try simp at h); omega)

end Go.Proofs.YtkbmigfkclnlaaaGreatDoor
namespace Go.Proofs.YtkbmigfkclnlaaaGreatDoor
open Go.RowKit Go.Rx
attribute [local go_sem] Ext.cell Ext.frozen Ext.lt Ext.lt_add Ext.cell2 Ext.frozen2
attribute [local irreducible] wpQuiet

set_option maxRecDepth 1000000 in
set_option maxHeartbeats 4000000 in
theorem st_yes7 (u7 u8 u9 u10 u11 u12 u13 u16 u17 u18 u19 u20 u21 u22 u23 u24 u25 u26 u27 u28 u29 u30 u31 u32 u33 u34 u35 u36 u37 u38 u39 u40 u41 u42 u43 u44 u45 u46 u47 u48 u49 u50 u51 u52 u53 u54 u55 u56 u57 u58 u59 u60 u61 u62 u63 u64 u65 u66 u67 u68 u69 u70 u71 u72 u73 u74 u75 u76 u77 u78 u79 u80 u81 u82 u83 u84 u85 u86 u87 u88 u89 u90 u91 u92 u93 u94 u95 u96 u97 u98 u99 u100 u101 u102 u103 u104 u105 u106 u107 u108 u109 u110 u111 u112 u113 u114 u115 u116 u117 u118 u119 u120 u121 u122 u123 u124 u125 u126 u127 u128 u129 u130 u131 u132 u133 u134 u135 u136 u137 u138 u139 u140 u141 u142 u143 u144 u145 u146 u147 u148 u149 u150 u151 u152 u153 u154 u155 u156 u157 u158 u159 u160 u161 u162 u163 u164 u165 u166 u167 u168 u169 u170 u171 u172 u173 u174 u175 u176 u177 u178 u179 u180 u181 u182 u183 u184 u185 u186 u187 u188 u189 u190 u191 u192 u193 u194 u195 u196 u197 u198 u199 u200 u201 u202 u203 u204 u205 u206 u207 u208 u209 u210 u211 u212 u213 u214 u215 u216 u217 u218 u219 u220 u221 u222 u223 u224 u225 u226 u227 u228 u229 u230 u231 u232 u233 u234 u235 u236 u237 u238 : Value) (M ro qo pos npos : Nat) (c : Int) (F j : Nat) (w : World) (Q : Exit → Act → World → Prop) (D n nq : Nat) (h1 : w.cell? ⟨M, ro + 1, none⟩ = some (.slice (some ⟨D, 0, none⟩) n nq)) (hnq : n ≤ 1000000) (T C nc : Nat) (hj : j < n) (hD : w.cell? ⟨D, j * 2 + 1, none⟩ = some (.pointer (some ⟨T, 0, none⟩))) (hDl : D < w.heap.size) (N R PR I np : Nat) (pg : Nat → Inst) (hP : ProgAt w N R PR I np pg) (pc : Nat) (hp0 : 0 < pc) (hpc : pc < np) (hT0 : w.cell? ⟨T, 0, none⟩ = some (.pointer (some ⟨I, pc * 4, none⟩))) (hT1 : w.cell? ⟨T, 1, none⟩ = some (.slice (some ⟨C, 0, none⟩) nc nc)) (hTl : T < w.heap.size) (hMl : M < w.heap.size) (hop : (pg pc).op = 7) (hmr : ∀ y : Ext w, Calls Tryz.prog 99 #[.pointer (some ⟨I, pc * 4, none⟩), .int .i32 c] y.now fun e w1 => e = .returned (.bool true) ∧ w1 = y.now) (base : Nat) (G : Option Nat → World → Prop) (hcall : ∀ y : Ext w, Calls Tryz.prog 108 #[.pointer (some ⟨M, 0, none⟩), .pointer (some ⟨M, qo, none⟩), .int .u32 (pg pc).out, .int .i64 npos, .slice (some ⟨C, 0, none⟩) nc nc, .pointer (some ⟨F, 0, none⟩), .pointer (some ⟨T, 0, none⟩)] y.now fun e w1 => ∃ hh, e = .returned (handPtr hh) ∧ G hh w1)
  (hgp : ∀ T' w1, G (some T') w1 → ∃ k pv xs, w1.cell? ⟨M, 6, none⟩ = some pv ∧ w1.frozen? ⟨M, 6, none⟩ = false ∧ w1.ownsRow base 209 1 pv k xs ∧ k < 9990000000000 ∧ base ≤ w1.heap.size ∧ pv.ownBlock ≠ some M ∧ M < w1.heap.size)
  (hgn : ∀ a w1, HF M ro qo pos npos c F (j + 1) a → G none w1 → Q .normal a w1)
  (hgs : ∀ a T' w1 k pv xs g cap w2, HF M ro qo pos npos c F (j + 1) a → G (some T') w1 → w1.cell? ⟨M, 6, none⟩ = some pv → w1.ownsRow base 209 1 pv k xs → w2.ownsRow base 209 1 (.slice (some ⟨g, 0, none⟩) (k + 1) cap) (k + 1) (xs ++ [.pointer (some ⟨T', 0, none⟩)]) →
   (∃ y : Ext w1, y.now.grownBy w2 pv.ownBlock) → (pv.ownBlock = some g ∨ w1.heap.size ≤ g) → g < w2.heap.size → Q .normal a (w2.setCell ⟨M, 6, none⟩ (.slice (some ⟨g, 0, none⟩) (k + 1) cap))) : stBody.wp Tryz.prog Q ⟨#[.pointer (some ⟨M, 0, none⟩), .pointer (some ⟨M, ro, none⟩), .pointer (some ⟨M, qo, none⟩), .int .i64 pos, .int .i64 npos, .int .i32 c, .pointer (some ⟨F, 0, none⟩), u7, u8, u9, u10, u11, u12, u13, .bool false, .int .i64 j, u16, u17, u18, u19, u20, u21, u22, u23, u24, u25, u26, u27, u28, u29, u30, u31, u32, u33, u34, u35, u36, u37, u38, u39, u40, u41, u42, u43, u44, u45, u46, u47, u48, u49, u50, u51, u52, u53, u54, u55, u56, u57, u58, u59, u60, u61, u62, u63, u64, u65, u66, u67, u68, u69, u70, u71, u72, u73, u74, u75, u76, u77, u78, u79, u80, u81, u82, u83, u84, u85, u86, u87, u88, u89, u90, u91, u92, u93, u94, u95, u96, u97, u98, u99, u100, u101, u102, u103, u104, u105, u106, u107, u108, u109, u110, u111, u112, u113, u114, u115, u116, u117, u118, u119, u120, u121, u122, u123, u124, u125, u126, u127, u128, u129, u130, u131, u132, u133, u134, u135, u136, u137, u138, u139, u140, u141, u142, u143, u144, u145, u146, u147, u148, u149, u150, u151, u152, u153, u154, u155, u156, u157, u158, u159, u160, u161, u162, u163, u164, u165, u166, u167, u168, u169, u170, u171, u172, u173, u174, u175, u176, u177, u178, u179, u180, u181, u182, u183, u184, u185, u186, u187, u188, u189, u190, u191, u192, u193, u194, u195, u196, u197, u198, u199, u200, u201, u202, u203, u204, u205, u206, u207, u208, u209, u210, u211, u212, u213, u214, u215, u216, u217, u218, u219, u220, u221, u222, u223, u224, u225, u226, u227, u228, u229, u230, u231, u232, u233, u234, u235, u236, u237, u238], []⟩ w := by
 conv => arg 2; whnf
 have hj' : (j : Int) < (n : Int) := by omega
 have hPlt := hP.lt
 have hPle := hP.le
 have hIl : I < w.heap.size := by omega
 have hopi := hP.op pc hp0 hpc
 have hout := hP.out pc hp0 hpc
 rw [hop] at hopi
 have HN := Lib.hid hgn
 have HS := Lib.hid hgs
 have HP := Lib.hid hgp
 clear hgn hgs hgp
 go_wp2_with fail
 refine wp_region_ext rfl (by kernel_rfl) ?_
 refine quiet_move _ rfl (by kernel_rfl) _ rfl ?_
 simp only [Act.put, List.setIfInBounds_toArray, List.set_cons_succ, List.set_cons_zero]
 refine quiet_move _ rfl (by kernel_rfl) _ rfl ?_
 simp only [Act.put, List.setIfInBounds_toArray, List.set_cons_succ, List.set_cons_zero]
 refine quiet_out (by kernel_rfl) ?_
 simp only [Act.put, List.setIfInBounds_toArray, List.set_cons_succ, List.set_cons_zero]
 refine quiet_out (by kernel_rfl) ?_
 simp only [Act.put, List.setIfInBounds_toArray, List.set_cons_succ, List.set_cons_zero]
 refine quiet_out (by kernel_rfl) ?_
 simp only [Act.put, List.setIfInBounds_toArray, List.set_cons_succ, List.set_cons_zero]
 refine quiet_out (by kernel_rfl) ?_
 simp only [Act.put, List.setIfInBounds_toArray, List.set_cons_succ, List.set_cons_zero]
 refine quiet_pick_no _ _ _ rfl (by kernel_rfl) rfl _ rfl ?_
 simp only [Act.put, List.setIfInBounds_toArray, List.set_cons_succ, List.set_cons_zero]
 refine quiet_move _ rfl (by kernel_rfl) _ rfl ?_
 simp only [Act.put, List.setIfInBounds_toArray, List.set_cons_succ, List.set_cons_zero]
 refine quiet_out (by kernel_rfl) ?_
 simp only [Act.put, List.setIfInBounds_toArray, List.set_cons_succ, List.set_cons_zero]
 refine quiet_out (by kernel_rfl) ?_
 simp only [Act.put, List.setIfInBounds_toArray, List.set_cons_succ, List.set_cons_zero]
 refine quiet_out (by kernel_rfl) ?_
 simp only [Act.put, List.setIfInBounds_toArray, List.set_cons_succ, List.set_cons_zero]
 refine quiet_out (by kernel_rfl) ?_
 simp only [Act.put, List.setIfInBounds_toArray, List.set_cons_succ, List.set_cons_zero]
 refine quiet_out (by kernel_rfl) ?_
 simp only [Act.put, List.setIfInBounds_toArray, List.set_cons_succ, List.set_cons_zero]
 refine quiet_out (by kernel_rfl) ?_
 simp only [Act.put, List.setIfInBounds_toArray, List.set_cons_succ, List.set_cons_zero]
 refine quiet_pick_no _ _ _ rfl (by kernel_rfl) rfl _ rfl ?_
 simp only [Act.put, List.setIfInBounds_toArray, List.set_cons_succ, List.set_cons_zero]
 refine quiet_move _ rfl (by kernel_rfl) _ rfl ?_
 simp only [Act.put, List.setIfInBounds_toArray, List.set_cons_succ, List.set_cons_zero]
 refine quiet_out (by kernel_rfl) ?_
 simp only [Act.put, List.setIfInBounds_toArray, List.set_cons_succ, List.set_cons_zero]
 refine quiet_out (by kernel_rfl) ?_
 simp only [Act.put, List.setIfInBounds_toArray, List.set_cons_succ, List.set_cons_zero]
 refine quiet_out (by kernel_rfl) ?_
 simp only [Act.put, List.setIfInBounds_toArray, List.set_cons_succ, List.set_cons_zero]
 refine quiet_out (by kernel_rfl) ?_
 simp only [Act.put, List.setIfInBounds_toArray, List.set_cons_succ, List.set_cons_zero]
 refine quiet_out (by kernel_rfl) ?_
 simp only [Act.put, List.setIfInBounds_toArray, List.set_cons_succ, List.set_cons_zero]
 refine quiet_out (by kernel_rfl) ?_
 simp only [Act.put, List.setIfInBounds_toArray, List.set_cons_succ, List.set_cons_zero]
 refine quiet_out (by kernel_rfl) ?_
 simp only [Act.put, List.setIfInBounds_toArray, List.set_cons_succ, List.set_cons_zero]
 refine quiet_out (by kernel_rfl) ?_
 simp only [Act.put, List.setIfInBounds_toArray, List.set_cons_succ, List.set_cons_zero]
 refine quiet_out (by kernel_rfl) ?_
 simp only [Act.put, List.setIfInBounds_toArray, List.set_cons_succ, List.set_cons_zero]
 refine quiet_out (by kernel_rfl) ?_
 simp only [Act.put, List.setIfInBounds_toArray, List.set_cons_succ, List.set_cons_zero]
 refine quiet_out (by kernel_rfl) ?_
 simp only [Act.put, List.setIfInBounds_toArray, List.set_cons_succ, List.set_cons_zero]
 refine quiet_out (by kernel_rfl) ?_
 simp only [Act.put, List.setIfInBounds_toArray, List.set_cons_succ, List.set_cons_zero]
 refine quiet_out (by kernel_rfl) ?_
 simp only [Act.put, List.setIfInBounds_toArray, List.set_cons_succ, List.set_cons_zero]
 refine quiet_pick_no _ _ _ rfl (by kernel_rfl) rfl _ rfl ?_
 simp only [Act.put, List.setIfInBounds_toArray, List.set_cons_succ, List.set_cons_zero]
 refine wpQuiet_nil ?_
 rintro w' ⟨y, rfl⟩
 have hmr1 := hmr y
 have hIy := y.lt _ hIl
 have hTy := y.lt _ hTl
 go_wp2_with (first | (go_at_call 99; (with_reducible refine hmr1.mono ?_); rintro e w1 ⟨rfl, rfl⟩))
 refine wp_region_ext_tail 13 rfl (by kernel_rfl) ?_
 simp only [List.take_succ_cons, List.take_zero, List.drop_succ_cons, List.drop_zero]
 repeat (quiet_step (fail))
 refine wpQuiet_nil ?_
 rintro w' ⟨z, rfl⟩
 go_wp2_with fail
 refine (hcall (y.trans z)).mono ?_
 rintro e w1 ⟨hh, rfl, hg⟩
 dsimp only
 cases hh with
 | none =>
  have HG := Lib.hid hg
  clear hg
  simp only [handPtr]
  go_wp2_with fail
  exact HN.out _ w1 (by constructor <;> rfl) HG.out
 | some T' =>
  obtain ⟨k, pv, xs, z6, zf6, zo, hk, hbase, hpM, zM⟩ := HP.out T' w1 hg
  have HG := Lib.hid hg
  have HO := Lib.hid zo
  have hMne : M ≠ w1.heap.size := by omega
  clear hg
  simp only [handPtr]
  go_wp2_with (at_builtin; refine th_append _ rfl _ _ rfl base k _ xs rfl (zo.alloc _) ⟨w1.heap.size, 0, none⟩ (.pointer (some ⟨T', 0, none⟩)) rfl (by simp) rfl (by omega) (by simp; omega) ?_)
  intro g cap w2 hw2 hgr hgg hgl
  have hkM : w2.heap[M]? = (w1.alloc (Obj.cells #[Value.pointer (some ⟨T', 0, none⟩)] 209)).heap[M]? := hgr.block M (by simp; omega) (fun e => hpM e.symm)
  have q6 : w2.cell? ⟨M, 6, none⟩ = some pv := by rw [World.cell?_of_block hkM, ← z6]; exact World.cell?_of_block (Below.heap_alloc _ _ _ zM)
  have qf6 : w2.frozen? ⟨M, 6, none⟩ = false := by rw [World.frozen?_of_block hkM, ← zf6]; exact World.frozen?_of_block (Below.heap_alloc _ _ _ zM)
  have qM : M < w2.heap.size := by have := hgr.size; simp at this; omega
  have HW := Lib.hid hw2
  have HR := Lib.hid hgr
  have Z6 := Lib.hid z6
  clear hw2 hgr z6 zf6 zo
  go_wp2_with fail
  refine HS.out _ T' w1 k pv xs g cap w2 (by constructor <;> rfl) HG.out Z6.out HO.out HW.out ⟨Ext.one _ _, HR.out⟩ ?_ hgl
  rcases hgg with h | h
  ·exact .inl h
  ·exact .inr (by (try simp at h); omega)

set_option maxRecDepth 1000000 in
set_option maxHeartbeats 4000000 in
theorem st_yes8 (u7 u8 u9 u10 u11 u12 u13 u16 u17 u18 u19 u20 u21 u22 u23 u24 u25 u26 u27 u28 u29 u30 u31 u32 u33 u34 u35 u36 u37 u38 u39 u40 u41 u42 u43 u44 u45 u46 u47 u48 u49 u50 u51 u52 u53 u54 u55 u56 u57 u58 u59 u60 u61 u62 u63 u64 u65 u66 u67 u68 u69 u70 u71 u72 u73 u74 u75 u76 u77 u78 u79 u80 u81 u82 u83 u84 u85 u86 u87 u88 u89 u90 u91 u92 u93 u94 u95 u96 u97 u98 u99 u100 u101 u102 u103 u104 u105 u106 u107 u108 u109 u110 u111 u112 u113 u114 u115 u116 u117 u118 u119 u120 u121 u122 u123 u124 u125 u126 u127 u128 u129 u130 u131 u132 u133 u134 u135 u136 u137 u138 u139 u140 u141 u142 u143 u144 u145 u146 u147 u148 u149 u150 u151 u152 u153 u154 u155 u156 u157 u158 u159 u160 u161 u162 u163 u164 u165 u166 u167 u168 u169 u170 u171 u172 u173 u174 u175 u176 u177 u178 u179 u180 u181 u182 u183 u184 u185 u186 u187 u188 u189 u190 u191 u192 u193 u194 u195 u196 u197 u198 u199 u200 u201 u202 u203 u204 u205 u206 u207 u208 u209 u210 u211 u212 u213 u214 u215 u216 u217 u218 u219 u220 u221 u222 u223 u224 u225 u226 u227 u228 u229 u230 u231 u232 u233 u234 u235 u236 u237 u238 : Value) (M ro qo pos npos : Nat) (c : Int) (F j : Nat) (w : World) (Q : Exit → Act → World → Prop) (D n nq : Nat) (h1 : w.cell? ⟨M, ro + 1, none⟩ = some (.slice (some ⟨D, 0, none⟩) n nq)) (hnq : n ≤ 1000000) (T C nc : Nat) (hj : j < n) (hD : w.cell? ⟨D, j * 2 + 1, none⟩ = some (.pointer (some ⟨T, 0, none⟩))) (hDl : D < w.heap.size) (N R PR I np : Nat) (pg : Nat → Inst) (hP : ProgAt w N R PR I np pg) (pc : Nat) (hp0 : 0 < pc) (hpc : pc < np) (hT0 : w.cell? ⟨T, 0, none⟩ = some (.pointer (some ⟨I, pc * 4, none⟩))) (hT1 : w.cell? ⟨T, 1, none⟩ = some (.slice (some ⟨C, 0, none⟩) nc nc)) (hTl : T < w.heap.size) (hMl : M < w.heap.size) (hop : (pg pc).op = 8) (rb cr : Nat) (x : Int) (h3 : w.cell? ⟨I, pc * 4 + 3, none⟩ = some (.slice (some ⟨rb, 0, none⟩) 1 cr)) (hrx : w.cell? ⟨rb, 0, none⟩ = some (.int .i32 x)) (hrb : rb < w.heap.size) (hcx : c = x) (base : Nat) (G : Option Nat → World → Prop) (hcall : ∀ y : Ext w, Calls Tryz.prog 108 #[.pointer (some ⟨M, 0, none⟩), .pointer (some ⟨M, qo, none⟩), .int .u32 (pg pc).out, .int .i64 npos, .slice (some ⟨C, 0, none⟩) nc nc, .pointer (some ⟨F, 0, none⟩), .pointer (some ⟨T, 0, none⟩)] y.now fun e w1 => ∃ hh, e = .returned (handPtr hh) ∧ G hh w1)
  (hgp : ∀ T' w1, G (some T') w1 → ∃ k pv xs, w1.cell? ⟨M, 6, none⟩ = some pv ∧ w1.frozen? ⟨M, 6, none⟩ = false ∧ w1.ownsRow base 209 1 pv k xs ∧ k < 9990000000000 ∧ base ≤ w1.heap.size ∧ pv.ownBlock ≠ some M ∧ M < w1.heap.size)
  (hgn : ∀ a w1, HF M ro qo pos npos c F (j + 1) a → G none w1 → Q .normal a w1)
  (hgs : ∀ a T' w1 k pv xs g cap w2, HF M ro qo pos npos c F (j + 1) a → G (some T') w1 → w1.cell? ⟨M, 6, none⟩ = some pv → w1.ownsRow base 209 1 pv k xs → w2.ownsRow base 209 1 (.slice (some ⟨g, 0, none⟩) (k + 1) cap) (k + 1) (xs ++ [.pointer (some ⟨T', 0, none⟩)]) →
   (∃ y : Ext w1, y.now.grownBy w2 pv.ownBlock) → (pv.ownBlock = some g ∨ w1.heap.size ≤ g) → g < w2.heap.size → Q .normal a (w2.setCell ⟨M, 6, none⟩ (.slice (some ⟨g, 0, none⟩) (k + 1) cap))) : stBody.wp Tryz.prog Q ⟨#[.pointer (some ⟨M, 0, none⟩), .pointer (some ⟨M, ro, none⟩), .pointer (some ⟨M, qo, none⟩), .int .i64 pos, .int .i64 npos, .int .i32 c, .pointer (some ⟨F, 0, none⟩), u7, u8, u9, u10, u11, u12, u13, .bool false, .int .i64 j, u16, u17, u18, u19, u20, u21, u22, u23, u24, u25, u26, u27, u28, u29, u30, u31, u32, u33, u34, u35, u36, u37, u38, u39, u40, u41, u42, u43, u44, u45, u46, u47, u48, u49, u50, u51, u52, u53, u54, u55, u56, u57, u58, u59, u60, u61, u62, u63, u64, u65, u66, u67, u68, u69, u70, u71, u72, u73, u74, u75, u76, u77, u78, u79, u80, u81, u82, u83, u84, u85, u86, u87, u88, u89, u90, u91, u92, u93, u94, u95, u96, u97, u98, u99, u100, u101, u102, u103, u104, u105, u106, u107, u108, u109, u110, u111, u112, u113, u114, u115, u116, u117, u118, u119, u120, u121, u122, u123, u124, u125, u126, u127, u128, u129, u130, u131, u132, u133, u134, u135, u136, u137, u138, u139, u140, u141, u142, u143, u144, u145, u146, u147, u148, u149, u150, u151, u152, u153, u154, u155, u156, u157, u158, u159, u160, u161, u162, u163, u164, u165, u166, u167, u168, u169, u170, u171, u172, u173, u174, u175, u176, u177, u178, u179, u180, u181, u182, u183, u184, u185, u186, u187, u188, u189, u190, u191, u192, u193, u194, u195, u196, u197, u198, u199, u200, u201, u202, u203, u204, u205, u206, u207, u208, u209, u210, u211, u212, u213, u214, u215, u216, u217, u218, u219, u220, u221, u222, u223, u224, u225, u226, u227, u228, u229, u230, u231, u232, u233, u234, u235, u236, u237, u238], []⟩ w := by
 conv => arg 2; whnf
 have hj' : (j : Int) < (n : Int) := by omega
 have hPlt := hP.lt
 have hPle := hP.le
 have hIl : I < w.heap.size := by omega
 have hopi := hP.op pc hp0 hpc
 have hout := hP.out pc hp0 hpc
 rw [hop] at hopi
 have HN := Lib.hid hgn
 have HS := Lib.hid hgs
 have HP := Lib.hid hgp
 clear hgn hgs hgp
 go_wp2_with fail
 refine wp_region_ext rfl (by kernel_rfl) ?_
 refine quiet_move _ rfl (by kernel_rfl) _ rfl ?_
 simp only [Act.put, List.setIfInBounds_toArray, List.set_cons_succ, List.set_cons_zero]
 refine quiet_move _ rfl (by kernel_rfl) _ rfl ?_
 simp only [Act.put, List.setIfInBounds_toArray, List.set_cons_succ, List.set_cons_zero]
 refine quiet_out (by kernel_rfl) ?_
 simp only [Act.put, List.setIfInBounds_toArray, List.set_cons_succ, List.set_cons_zero]
 refine quiet_out (by kernel_rfl) ?_
 simp only [Act.put, List.setIfInBounds_toArray, List.set_cons_succ, List.set_cons_zero]
 refine quiet_out (by kernel_rfl) ?_
 simp only [Act.put, List.setIfInBounds_toArray, List.set_cons_succ, List.set_cons_zero]
 refine quiet_out (by kernel_rfl) ?_
 simp only [Act.put, List.setIfInBounds_toArray, List.set_cons_succ, List.set_cons_zero]
 refine quiet_pick_no _ _ _ rfl (by kernel_rfl) rfl _ rfl ?_
 simp only [Act.put, List.setIfInBounds_toArray, List.set_cons_succ, List.set_cons_zero]
 refine quiet_move _ rfl (by kernel_rfl) _ rfl ?_
 simp only [Act.put, List.setIfInBounds_toArray, List.set_cons_succ, List.set_cons_zero]
 refine quiet_out (by kernel_rfl) ?_
 simp only [Act.put, List.setIfInBounds_toArray, List.set_cons_succ, List.set_cons_zero]
 refine quiet_out (by kernel_rfl) ?_
 simp only [Act.put, List.setIfInBounds_toArray, List.set_cons_succ, List.set_cons_zero]
 refine quiet_out (by kernel_rfl) ?_
 simp only [Act.put, List.setIfInBounds_toArray, List.set_cons_succ, List.set_cons_zero]
 refine quiet_out (by kernel_rfl) ?_
 simp only [Act.put, List.setIfInBounds_toArray, List.set_cons_succ, List.set_cons_zero]
 refine quiet_out (by kernel_rfl) ?_
 simp only [Act.put, List.setIfInBounds_toArray, List.set_cons_succ, List.set_cons_zero]
 refine quiet_out (by kernel_rfl) ?_
 simp only [Act.put, List.setIfInBounds_toArray, List.set_cons_succ, List.set_cons_zero]
 refine quiet_pick_no _ _ _ rfl (by kernel_rfl) rfl _ rfl ?_
 simp only [Act.put, List.setIfInBounds_toArray, List.set_cons_succ, List.set_cons_zero]
 refine quiet_move _ rfl (by kernel_rfl) _ rfl ?_
 simp only [Act.put, List.setIfInBounds_toArray, List.set_cons_succ, List.set_cons_zero]
 refine quiet_out (by kernel_rfl) ?_
 simp only [Act.put, List.setIfInBounds_toArray, List.set_cons_succ, List.set_cons_zero]
 refine quiet_out (by kernel_rfl) ?_
 simp only [Act.put, List.setIfInBounds_toArray, List.set_cons_succ, List.set_cons_zero]
 refine quiet_out (by kernel_rfl) ?_
 simp only [Act.put, List.setIfInBounds_toArray, List.set_cons_succ, List.set_cons_zero]
 refine quiet_out (by kernel_rfl) ?_
 simp only [Act.put, List.setIfInBounds_toArray, List.set_cons_succ, List.set_cons_zero]
 refine quiet_out (by kernel_rfl) ?_
 simp only [Act.put, List.setIfInBounds_toArray, List.set_cons_succ, List.set_cons_zero]
 refine quiet_out (by kernel_rfl) ?_
 simp only [Act.put, List.setIfInBounds_toArray, List.set_cons_succ, List.set_cons_zero]
 refine quiet_out (by kernel_rfl) ?_
 simp only [Act.put, List.setIfInBounds_toArray, List.set_cons_succ, List.set_cons_zero]
 refine quiet_out (by kernel_rfl) ?_
 simp only [Act.put, List.setIfInBounds_toArray, List.set_cons_succ, List.set_cons_zero]
 refine quiet_out (by kernel_rfl) ?_
 simp only [Act.put, List.setIfInBounds_toArray, List.set_cons_succ, List.set_cons_zero]
 refine quiet_out (by kernel_rfl) ?_
 simp only [Act.put, List.setIfInBounds_toArray, List.set_cons_succ, List.set_cons_zero]
 refine quiet_out (by kernel_rfl) ?_
 simp only [Act.put, List.setIfInBounds_toArray, List.set_cons_succ, List.set_cons_zero]
 refine quiet_out (by kernel_rfl) ?_
 simp only [Act.put, List.setIfInBounds_toArray, List.set_cons_succ, List.set_cons_zero]
 refine quiet_out (by kernel_rfl) ?_
 simp only [Act.put, List.setIfInBounds_toArray, List.set_cons_succ, List.set_cons_zero]
 refine quiet_pick_no _ _ _ rfl (by kernel_rfl) rfl _ rfl ?_
 simp only [Act.put, List.setIfInBounds_toArray, List.set_cons_succ, List.set_cons_zero]
 refine wpQuiet_nil ?_
 rintro w' ⟨y, rfl⟩
 have y3 : y.now.cell? ⟨I, pc * 4 + 3, none⟩ = some (.slice (some ⟨rb, 0, none⟩) 1 cr) := (y.cell _ _ hIl).trans h3
 have yx : y.now.cell? ⟨rb, 0, none⟩ = some (.int .i32 x) := (y.cell _ _ hrb).trans hrx
 have hIy := y.lt _ hIl
 have hTy := y.lt _ hTl
 subst hcx
 go_wp2_with fail
 refine wp_region_ext_tail 13 rfl (by kernel_rfl) ?_
 simp only [List.take_succ_cons, List.take_zero, List.drop_succ_cons, List.drop_zero]
 repeat (quiet_step (fail))
 refine wpQuiet_nil ?_
 rintro w' ⟨z, rfl⟩
 go_wp2_with fail
 refine (hcall (y.trans z)).mono ?_
 rintro e w1 ⟨hh, rfl, hg⟩
 dsimp only
 cases hh with
 | none =>
  have HG := Lib.hid hg
  clear hg
  simp only [handPtr]
  go_wp2_with fail
  exact HN.out _ w1 (by constructor <;> rfl) HG.out
 | some T' =>
  obtain ⟨k, pv, xs, z6, zf6, zo, hk, hbase, hpM, zM⟩ := HP.out T' w1 hg
  have HG := Lib.hid hg
  have HO := Lib.hid zo
  have hMne : M ≠ w1.heap.size := by omega
  clear hg
  simp only [handPtr]
  go_wp2_with (at_builtin; refine th_append _ rfl _ _ rfl base k _ xs rfl (zo.alloc _) ⟨w1.heap.size, 0, none⟩ (.pointer (some ⟨T', 0, none⟩)) rfl (by simp) rfl (by omega) (by simp; omega) ?_)
  intro g cap w2 hw2 hgr hgg hgl
  have hkM : w2.heap[M]? = (w1.alloc (Obj.cells #[Value.pointer (some ⟨T', 0, none⟩)] 209)).heap[M]? := hgr.block M (by simp; omega) (fun e => hpM e.symm)
  have q6 : w2.cell? ⟨M, 6, none⟩ = some pv := by rw [World.cell?_of_block hkM, ← z6]; exact World.cell?_of_block (Below.heap_alloc _ _ _ zM)
  have qf6 : w2.frozen? ⟨M, 6, none⟩ = false := by rw [World.frozen?_of_block hkM, ← zf6]; exact World.frozen?_of_block (Below.heap_alloc _ _ _ zM)
  have qM : M < w2.heap.size := by have := hgr.size; simp at this; omega
  have HW := Lib.hid hw2
  have HR := Lib.hid hgr
  have Z6 := Lib.hid z6
  clear hw2 hgr z6 zf6 zo
  go_wp2_with fail
  refine HS.out _ T' w1 k pv xs g cap w2 (by constructor <;> rfl) HG.out Z6.out HO.out HW.out ⟨Ext.one _ _, HR.out⟩ ?_ hgl
  rcases hgg with h | h
  ·exact .inl h
  ·exact .inr (by (try simp at h); omega)

end Go.Proofs.YtkbmigfkclnlaaaGreatDoor
