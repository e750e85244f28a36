/-
FnCronTextAfterRoads: the calendar, the schedules, their texts and the zones, part 22 of 34.
-/
import Derived.Shelf.LaysC
import Derived.Shelf.Strconv.AtoiAll
import Derived.Shelf.Strings.FieldsFuncAny
import Derived.Test.YtopcjlimjkfoiaaGreatDoorProg
import Derived.Test.YtopcjlimjkfoiaaGreatDoorV21
import Derived.MapKept
set_option linter.all false
namespace Go.Proofs
open Go.Shelf
def Tryz.laysC172_ren : Go.Shelf.Ren := ⟨fun | 172 => 110 | 244 => 114 | 245 => 115 | 247 => 119 | 279 => 120 | 280 => 121 | 281 => 122 | 282 => 123 | 287 => 125 | 316 => 126 | 171 => 127 | 205 => 41 | 321 => 128 | 322 => 129 | 243 => 130 | 246 => 131 | 283 => 132 | 284 => 133 | 285 => 134 | 286 => 135 | 129 => 137 | 317 => 136 | 318 => 138 | 319 => 139 | 320 => 140 | 337 => 141 | 338 => 142 | n => n, fun | 9 => 9 | 3 => 3 | 75 => 73 | 76 => 193 | 4 => 4 | 5 => 5 | 167 => 199 | 37 => 196 | 0 => 0 | 85 => 200 | 2 => 2 | 168 => 202 | 53 => 44 | 175 => 110 | 46 => 106 | 210 => 208 | 127 => 209 | 145 => 133 | 143 => 131 | 21 => 21 | 171 => 211 | 173 => 214 | 212 => 217 | 51 => 218 | 20 => 20 | 213 => 219 | 232 => 222 | 233 => 223 | 80 => 224 | n => n, fun | 15 => 4 | 16 => 5 | 17 => 6 | 18 => 7 | 19 => 8 | n => n⟩
theorem Tryz.laysC172 : Go.Proofs.LaysC.n172 Tryz.prog Tryz.laysC172_ren := {
  mixed := by kernel_rfl
  f129 := Tryz.func137.trans (congrArg some (by kernel_rfl))
  f171 := Tryz.func127.trans (congrArg some (by kernel_rfl))
  f172 := Tryz.func110.trans (congrArg some (by kernel_rfl))
  f205 := Tryz.func41.trans (congrArg some (by kernel_rfl))
  f243 := Tryz.func130.trans (congrArg some (by kernel_rfl))
  f244 := Tryz.func114.trans (congrArg some (by kernel_rfl))
  f245 := Tryz.func115.trans (congrArg some (by kernel_rfl))
  f246 := Tryz.func131.trans (congrArg some (by kernel_rfl))
  f247 := Tryz.func119.trans (congrArg some (by kernel_rfl))
  f279 := Tryz.func120.trans (congrArg some (by kernel_rfl))
  f280 := Tryz.func121.trans (congrArg some (by kernel_rfl))
  f281 := Tryz.func122.trans (congrArg some (by kernel_rfl))
  f282 := Tryz.func123.trans (congrArg some (by kernel_rfl))
  f283 := Tryz.func132.trans (congrArg some (by kernel_rfl))
  f284 := Tryz.func133.trans (congrArg some (by kernel_rfl))
  f285 := Tryz.func134.trans (congrArg some (by kernel_rfl))
  f286 := Tryz.func135.trans (congrArg some (by kernel_rfl))
  f287 := Tryz.func125.trans (congrArg some (by kernel_rfl))
  f316 := Tryz.func126.trans (congrArg some (by kernel_rfl))
  f317 := Tryz.func136.trans (congrArg some (by kernel_rfl))
  f318 := Tryz.func138.trans (congrArg some (by kernel_rfl))
  f319 := Tryz.func139.trans (congrArg some (by kernel_rfl))
  f320 := Tryz.func140.trans (congrArg some (by kernel_rfl))
  f321 := Tryz.func128.trans (congrArg some (by kernel_rfl))
  f322 := Tryz.func129.trans (congrArg some (by kernel_rfl))
  f337 := Tryz.func141.trans (congrArg some (by kernel_rfl))
  f338 := Tryz.func142.trans (congrArg some (by kernel_rfl))
  t0 := Tryz.underlying0
  a0 := Tryz.isAgg0
  z0 := Tryz.sizeOf0
  v0 := Tryz.zeroValue0
  t2 := Tryz.underlying2
  a2 := Tryz.isAgg2
  z2 := Tryz.sizeOf2
  v2 := Tryz.zeroValue2
  t3 := Tryz.underlying3
  a3 := Tryz.isAgg3
  z3 := Tryz.sizeOf3
  v3 := Tryz.zeroValue3
  t4 := Tryz.underlying4
  a4 := Tryz.isAgg4
  z4 := Tryz.sizeOf4
  v4 := Tryz.zeroValue4
  t5 := Tryz.underlying5
  a5 := Tryz.isAgg5
  z5 := Tryz.sizeOf5
  v5 := Tryz.zeroValue5
  t9 := Tryz.underlying9
  a9 := Tryz.isAgg9
  z9 := Tryz.sizeOf9
  v9 := Tryz.zeroValue9
  t20 := Tryz.underlying20
  a20 := Tryz.isAgg20
  z20 := Tryz.sizeOf20
  v20 := Tryz.zeroValue20
  t21 := Tryz.underlying21
  a21 := Tryz.isAgg21
  z21 := Tryz.sizeOf21
  v21 := Tryz.zeroValue21
  t37 := Tryz.underlying196
  a37 := Tryz.isAgg196
  z37 := Tryz.sizeOf196
  v37 := Tryz.zeroValue196
  t46 := Tryz.underlying106
  a46 := Tryz.isAgg106
  z46 := Tryz.sizeOf106
  v46 := Tryz.zeroValue106
  t51 := Tryz.underlying218
  a51 := Tryz.isAgg218
  z51 := Tryz.sizeOf218
  v51 := Tryz.zeroValue218
  t53 := Tryz.underlying44
  a53 := Tryz.isAgg44
  z53 := Tryz.sizeOf44
  v53 := Tryz.zeroValue44
  t75 := Tryz.underlying73
  a75 := Tryz.isAgg73
  z75 := Tryz.sizeOf73
  v75 := Tryz.zeroValue73
  t76 := Tryz.underlying193
  a76 := Tryz.isAgg193
  z76 := Tryz.sizeOf193
  v76 := Tryz.zeroValue193
  t85 := Tryz.underlying200
  a85 := Tryz.isAgg200
  z85 := Tryz.sizeOf200
  v85 := Tryz.zeroValue200
  t127 := Tryz.underlying209
  a127 := Tryz.isAgg209
  z127 := Tryz.sizeOf209
  v127 := Tryz.zeroValue209
  t143 := Tryz.underlying131
  a143 := Tryz.isAgg131
  z143 := Tryz.sizeOf131
  v143 := Tryz.zeroValue131
  t145 := Tryz.underlying133
  a145 := Tryz.isAgg133
  z145 := Tryz.sizeOf133
  v145 := Tryz.zeroValue133
  t167 := Tryz.underlying199
  a167 := Tryz.isAgg199
  z167 := Tryz.sizeOf199
  v167 := Tryz.zeroValue199
  t168 := Tryz.underlying202
  a168 := Tryz.isAgg202
  z168 := Tryz.sizeOf202
  v168 := Tryz.zeroValue202
  t171 := Tryz.underlying211
  a171 := Tryz.isAgg211
  z171 := Tryz.sizeOf211
  v171 := Tryz.zeroValue211
  t173 := Tryz.underlying214
  a173 := Tryz.isAgg214
  z173 := Tryz.sizeOf214
  v173 := Tryz.zeroValue214
  t175 := Tryz.underlying110
  a175 := Tryz.isAgg110
  z175 := Tryz.sizeOf110
  v175 := Tryz.zeroValue110
  t210 := Tryz.underlying208
  a210 := Tryz.isAgg208
  z210 := Tryz.sizeOf208
  v210 := Tryz.zeroValue208
  t212 := Tryz.underlying217
  a212 := Tryz.isAgg217
  z212 := Tryz.sizeOf217
  v212 := Tryz.zeroValue217
  t213 := Tryz.underlying219
  a213 := Tryz.isAgg219
  z213 := Tryz.sizeOf219
  t232 := Tryz.underlying222
  a232 := Tryz.isAgg222
  z232 := Tryz.sizeOf222
  v232 := Tryz.zeroValue222
  t233 := Tryz.underlying223
  a233 := Tryz.isAgg223
  z233 := Tryz.sizeOf223
  v233 := Tryz.zeroValue223
  g15 := by kernel_rfl
  g16 := by kernel_rfl
  g17 := by kernel_rfl
  g18 := by kernel_rfl
  g19 := by kernel_rfl
  t80 := Tryz.underlying224
  a80 := Tryz.isAgg224
  z80 := Tryz.sizeOf224
  v80 := Tryz.zeroValue224
  i0 := by kernel_rfl
  i2 := by kernel_rfl
  i3 := by kernel_rfl
  i4 := by kernel_rfl
  i5 := by kernel_rfl
  i9 := by kernel_rfl
  i20 := by kernel_rfl
  i21 := by kernel_rfl
  i37 := by kernel_rfl
  i46 := by kernel_rfl
  i51 := by kernel_rfl
  i53 := by kernel_rfl
  i75 := by kernel_rfl
  i76 := by kernel_rfl
  i80 := by kernel_rfl
  i85 := by kernel_rfl
  i127 := by kernel_rfl
  i143 := by kernel_rfl
  i145 := by kernel_rfl
  i167 := by kernel_rfl
  i168 := by kernel_rfl
  i171 := by kernel_rfl
  i173 := by kernel_rfl
  i175 := by kernel_rfl
  i210 := by kernel_rfl
  i212 := by kernel_rfl
  i232 := by kernel_rfl
  i233 := by kernel_rfl
  m15 := by kernel_rfl
  m16 := by kernel_rfl
  m17 := by kernel_rfl
  m18 := by kernel_rfl
  m19 := by kernel_rfl
  c0 := by kernel_rfl
  c2 := by kernel_rfl
  c3 := by kernel_rfl
  c4 := by kernel_rfl
  c5 := by kernel_rfl
  c9 := by kernel_rfl
  c20 := by kernel_rfl
  c21 := by kernel_rfl
  c37 := by kernel_rfl
  c46 := by kernel_rfl
  c51 := by kernel_rfl
  c53 := by kernel_rfl
  c75 := by kernel_rfl
  c76 := by kernel_rfl
  c80 := by kernel_rfl
  c85 := by kernel_rfl
  c127 := by kernel_rfl
  c143 := by kernel_rfl
  c145 := by kernel_rfl
  c167 := by kernel_rfl
  c168 := by kernel_rfl
  c171 := by kernel_rfl
  c173 := by kernel_rfl
  c175 := by kernel_rfl
  c210 := by kernel_rfl
  c212 := by kernel_rfl
  c213 := by kernel_rfl
  c232 := by kernel_rfl
  c233 := by kernel_rfl }
open Go.RowKit in
theorem Tryz.strconv_Atoi_ok (s : ByteArray) (hmax : s.size ≤ 9223372036854775806) (v : Int) (h : Lib.atoiAll s.data.toList = .ok v) (w : World) :
    Calls Tryz.prog 110 #[.string s] w fun e w' => e = .returned (.tuple #[.int .i64 v, .nilIface]) ∧ (w' = w ∨ ∃ t, w' = Lib.bytesWorld w 5 t) := Any.strconv_Atoi_ok Tryz.laysC172 s hmax v h w
def Tryz.lays229_ren : Go.Shelf.Ren := ⟨fun | 229 => 80 | n => n, fun | 9 => 9 | 40 => 136 | 31 => 85 | 152 => 175 | 3 => 3 | 0 => 0 | 4 => 4 | 21 => 21 | 154 => 177 | n => n, fun | n => n⟩
theorem Tryz.lays229 : Go.Proofs.Lays.n229 Tryz.prog Tryz.lays229_ren := {
  mixed := by kernel_rfl
  f229 := Tryz.func80.trans (congrArg some (by kernel_rfl))
  t0 := Tryz.underlying0
  a0 := Tryz.isAgg0
  z0 := Tryz.sizeOf0
  v0 := Tryz.zeroValue0
  t3 := Tryz.underlying3
  a3 := Tryz.isAgg3
  z3 := Tryz.sizeOf3
  v3 := Tryz.zeroValue3
  t4 := Tryz.underlying4
  a4 := Tryz.isAgg4
  z4 := Tryz.sizeOf4
  v4 := Tryz.zeroValue4
  t9 := Tryz.underlying9
  a9 := Tryz.isAgg9
  z9 := Tryz.sizeOf9
  v9 := Tryz.zeroValue9
  t21 := Tryz.underlying21
  a21 := Tryz.isAgg21
  z21 := Tryz.sizeOf21
  v21 := Tryz.zeroValue21
  t31 := Tryz.underlying85
  a31 := Tryz.isAgg85
  z31 := Tryz.sizeOf85
  v31 := Tryz.zeroValue85
  t40 := Tryz.underlying136
  a40 := Tryz.isAgg136
  z40 := Tryz.sizeOf136
  v40 := Tryz.zeroValue136
  t152 := Tryz.underlying175
  a152 := Tryz.isAgg175
  z152 := Tryz.sizeOf175
  v152 := Tryz.zeroValue175
  t154 := Tryz.underlying177
  a154 := Tryz.isAgg177
  z154 := Tryz.sizeOf177
  v154 := Tryz.zeroValue177 }
open Go.RowKit Go.Lib in
theorem Tryz.strings_FieldsFunc_runes (g : Nat) (lb : Array Value) (eg : ∀ args w, (callFunc g args).run Tryz.prog w = .ok (.enter g args) w) (p : Nat → Bool) (s : ByteArray) (w : World) (hs : s.size ≤ 4294967296) (hp : PredAtRunes Tryz.prog g lb p w) :
    Calls Tryz.prog 80 #[.string s, .func (.func g) #[] lb] w fun e w' => ∃ A, e = .returned (.slice (some ⟨A, 0, none⟩) (Lib.goFieldsP p s).length (Lib.goFieldsP p s).length) ∧ w.heap.size ≤ A ∧
      w'.ownsRow w.heap.size 9 1 (.slice (some ⟨A, 0, none⟩) (Lib.goFieldsP p s).length (Lib.goFieldsP p s).length) (Lib.goFieldsP p s).length ((Lib.goFieldsP p s).map Value.string) ∧ Below w.heap.size w w' := Any.strings_FieldsFunc_runes Tryz.lays229 g lb eg p s w hs hp (by kernel_rfl) (by kernel_rfl)
open Go.RowKit Go.Lib in
theorem Tryz.strings_FieldsFunc (g : Nat) (lb : Array Value) (eg : ∀ args w, (callFunc g args).run Tryz.prog w = .ok (.enter g args) w) (p : Nat → Bool) (s : ByteArray) (w : World) (hs : s.size ≤ 4294967296) (hp : PredAt Tryz.prog g lb encR p w) :
    Calls Tryz.prog 80 #[.string s, .func (.func g) #[] lb] w fun e w' => ∃ A, e = .returned (.slice (some ⟨A, 0, none⟩) (Lib.goFieldsP p s).length (Lib.goFieldsP p s).length) ∧ w.heap.size ≤ A ∧
      w'.ownsRow w.heap.size 9 1 (.slice (some ⟨A, 0, none⟩) (Lib.goFieldsP p s).length (Lib.goFieldsP p s).length) (Lib.goFieldsP p s).length ((Lib.goFieldsP p s).map Value.string) ∧ Below w.heap.size w w' := Any.strings_FieldsFunc Tryz.lays229 g lb eg p s w hs hp (by kernel_rfl) (by kernel_rfl)
end Go.Proofs
namespace Go.Proofs.YtopcjlimjkfoiaaGreatDoor
open Go.RowKit
attribute [local go_sem] Ext.cell Ext.frozen Ext.lt Ext.lt_add Ext.cell2 Ext.frozen2

theorem fold_ge : ∀ (l : List Nat) (a : Nat), a ≤ l.foldl (fun n c => 10 * n + (c - 48)) a
  | [], _ => Nat.le_refl _
  | c :: r, a => by
    rw [List.foldl_cons]
    have := fold_ge r (10 * a + (c - 48))
    omega

theorem parse_fold : ∀ (l : List UInt8) (a : Nat), (∀ c ∈ l.map UInt8.toNat, dig c = true) → (l.map UInt8.toNat).foldl (fun n c => 10 * n + (c - 48)) a < 1099511627776 → Lib.parseUint10 a l = .ok ((l.map UInt8.toNat).foldl (fun n c => 10 * n + (c - 48)) a)
  | [], a, _, _ => rfl
  | c :: r, a, h, hn => by
    have hd := dig_iff.1 (h c.toNat (by simp))
    rw [List.map_cons, List.foldl_cons] at hn ⊢
    have hge := fold_ge (r.map UInt8.toNat) (10 * a + (c.toNat - 48))
    have := parse_fold r (10 * a + (c.toNat - 48)) (fun x hx => h x (by rw [List.map_cons]; exact List.mem_cons_of_mem _ hx)) hn
    unfold Lib.parseUint10
    rw [if_pos hd, if_neg (by omega), if_neg (by omega), show a * 10 + (c.toNat - 48) = 10 * a + (c.toNat - 48) by omega]
    exact this

theorem atoi_ok {s : ByteArray} (h : digs (nats s)) (hn : num (nats s) < 1099511627776) : Lib.atoiAll s.data.toList = .ok ((num (nats s) : Nat) : Int) := by
  obtain ⟨h1, h2⟩ := h
  have hp := parse_fold s.data.toList 0 h2 hn
  rw [show (s.data.toList.map UInt8.toNat).foldl (fun n c => 10 * n + (c - 48)) 0 = num (nats s) from rfl] at hp
  unfold Lib.atoiAll
  have h2' : ∀ c ∈ s.data.toList.map UInt8.toNat, dig c = true := h2
  have h1' : s.data.toList ≠ [] := fun e => h1 (by unfold nats; rw [e]; rfl)
  generalize s.data.toList = l at hp h2' h1' ⊢
  cases l with
  | nil => exact absurd rfl h1'
  | cons c r =>
    have hd := dig_iff.1 (h2' c.toNat (by simp))
    have n43 : ¬ c.toNat = 43 := by omega
    have n45 : ¬ c.toNat = 45 := by omega
    simp only [n43, n45, false_or, if_false]
    unfold Lib.parseMag
    rw [if_neg (List.cons_ne_nil _ _), hp]
    simp only [not_false_eq_true, true_and, false_and, if_false]
    rw [if_neg (by omega)]

theorem must_any (s : ByteArray) (n : Nat) (h : NumFine (nats s) n) (hn : n < 1099511627776) (hs : s.size < 100000000000) (w : World) :
    Calls Tryz.prog 101 #[.string s] w fun e w' => e = .returned (.tuple #[.int .u64 n, .nilIface]) ∧ ∃ y : Ext w, w' = y.now := by
  obtain ⟨hd, hm⟩ := h
  have he : num (nats s) = n := by omega
  have hat := Lib.hid (fun (W : World) => (show Calls Tryz.prog 110 #[.string s] W fun e w' => e = .returned (.tuple #[.int .i64 n, .nilIface]) ∧ ∃ y : Ext W, w' = y.now from by
    refine (Tryz.strconv_Atoi_ok s (by omega) (n : Int) (by rw [← he]; exact atoi_ok hd (by omega)) W).mono ?_
    rintro e w' ⟨h1, h2⟩
    refine ⟨h1, ?_⟩
    rcases h2 with rfl | ⟨t, rfl⟩
    · exact Ext.here _
    · exact Ext.of (Lib.bytesWorld_below _ _ _)))
  have n0 : ¬ (n : Int) < 0 := by omega
  clear hd hm he
  go_enter Tryz.func101, Tryz.ntmps101
  go_wp2_with (go_at_call 110; (with_reducible refine (hat.out _).mono ?_); rintro e w9 ⟨rfl, y, rfl⟩)
  go_ret2
  exact ⟨rfl, y, rfl⟩

end Go.Proofs.YtopcjlimjkfoiaaGreatDoor
namespace Go.Proofs.YtopcjlimjkfoiaaGreatDoor
open Go.RowKit
attribute [local go_sem] Ext.cell Ext.frozen Ext.lt Ext.lt_add Ext.cell2 Ext.frozen2

def Tab (w : World) (M : Nat) (T : List (ByteArray × Nat)) : Prop :=
  ∃ es c, w.heap[M]? = some (.map es c) ∧ es.toList.map (fun e => (e.key, e.val)) = T.map (fun x => (Value.string x.1, Value.int .u64 (x.2 : Nat)))

theorem Tab.lt {w : World} {M : Nat} {T : List (ByteArray × Nat)} (h : Tab w M T) : M < w.heap.size := by
  obtain ⟨es, c, h, _⟩ := h
  exact (Array.getElem?_eq_some_iff.1 h).1

theorem Tab.ext {w : World} {M : Nat} {T : List (ByteArray × Nat)} (h : Tab w M T) (x : Ext w) : Tab x.now M T := by
  have hl := h.lt
  obtain ⟨es, c, h, h2⟩ := h
  exact ⟨es, c, by rw [x.block M hl]; exact h, h2⟩

theorem Tab.set {w : World} {M : Nat} {T : List (ByteArray × Nat)} (h : Tab w M T) (B o : Nat) (v : Value) (hne : B ≠ M) : Tab (w.setCell ⟨B, o, none⟩ v) M T := by
  obtain ⟨es, c, h1, h2⟩ := h
  refine ⟨es, c, ?_, h2⟩
  unfold World.setCell
  rw [← h1]
  simp [Array.getElem?_modify, hne]

def look (T : List (ByteArray × Nat)) (l : List Nat) : Option Nat := (T.find? fun x => decide (nats x.1 = l)).map (·.2)

theorem ba_beq (a b : ByteArray) : (a == b) = decide (nats a = nats b) := by
  obtain ⟨a⟩ := a
  obtain ⟨b⟩ := b
  have e : ((⟨a⟩ : ByteArray) == ⟨b⟩) = (a == b) := rfl
  rw [e]
  by_cases h : a = b
  · rw [h, decide_eq_true rfl]
    exact beq_self_eq_true b
  · rw [beq_eq_false_iff_ne.2 h]
    exact (decide_eq_false fun e => h (by have := nats_inj e; cases this; rfl)).symm

theorem find_tab (s : ByteArray) : ∀ (T : List (ByteArray × Nat)) (es : List MapEntry) (i : Nat), es.map (fun e => (e.key, e.val)) = T.map (fun x => (Value.string x.1, Value.int .u64 (x.2 : Nat))) →
    (∀ v, look T (nats s) = some v → ∃ j, Instr.findNow .string (.string s) es i = some (some (j, .int .u64 (v : Nat)))) ∧ (look T (nats s) = none → Instr.findNow .string (.string s) es i = some none)
  | [], [], _, _ => ⟨fun v h => (by cases h), fun _ => rfl⟩
  | [], e :: es, _, h => by cases h
  | x :: T, [], _, h => by cases h
  | x :: T, e :: es, i, h => by
    rw [List.map_cons, List.map_cons] at h
    injection h with h1 h2
    obtain ⟨ek, ev, eb⟩ := e
    simp only [Prod.mk.injEq] at h1
    obtain ⟨rfl, rfl⟩ := h1
    have ih := find_tab s T es (i + 1) h2
    by_cases hx : nats x.1 = nats s
    · have hb : (s == x.1) = true := by rw [ba_beq]; exact decide_eq_true hx.symm
      have hl : look (x :: T) (nats s) = some x.2 := by
        unfold look
        rw [List.find?_cons_of_pos (by simpa using hx)]
        rfl
      rw [hl]
      refine ⟨fun v hv => ⟨i, ?_⟩, fun hv => by cases hv⟩
      cases hv
      simp only [Instr.findNow, Instr.sameNow, hb]
    · have hb : (s == x.1) = false := by rw [ba_beq]; exact decide_eq_false (Ne.symm hx)
      have hl : look (x :: T) (nats s) = look T (nats s) := by
        unfold look
        rw [List.find?_cons_of_neg (by simpa using hx)]
      rw [hl]
      simp only [Instr.findNow, Instr.sameNow, hb]
      exact ih

theorem look_run {w : World} {M : Nat} {T : List (ByteArray × Nat)} (h : Tab w M T) (s : ByteArray) :
    (∀ v, look T (nats s) = some v → (Instr.lookup 107 (.map (some M)) (.string s) true).run Tryz.prog w = .ok (.tuple #[.int .u64 (v : Nat), .bool true]) w) ∧
    (look T (nats s) = none → (Instr.lookup 107 (.map (some M)) (.string s) true).run Tryz.prog w = .ok (.tuple #[.int .u64 0, .bool false]) w) := by
  obtain ⟨es, c, h1, h2⟩ := h
  have h9 : Tryz.prog.underlying 9 = some .string := by kernel_rfl
  have hm : Tryz.prog.underlying 107 = some (.map 9 106) := by kernel_rfl
  have hz : (zeroValue 106).run Tryz.prog w = .ok (.int .u64 0) w := by kernel_rfl
  have hf := find_tab s T es.toList 0 h2
  have hck : ∀ b, (Instr.checkKey b 10000 9 (.string s)).run Tryz.prog w = .ok () w := fun b => Go.MapKept.run_checkKey h9 (by trivial) b 9999
  refine ⟨fun v hv => ?_, fun hv => ?_⟩
  · obtain ⟨j, hj⟩ := hf.1 v hv
    simp [Instr.lookup, Sem.run_bind, run_underlying hm, Go.MapKept.run_getObj_map h1, hck, Go.MapKept.run_findKey h9 hj]
  · simp [Instr.lookup, Sem.run_bind, run_underlying hm, Go.MapKept.run_getObj_map h1, hck, Go.MapKept.run_findKey h9 (hf.2 hv), hz]

structure MapIn (w0 w : World) (B M : Nat) (T : List (ByteArray × Nat)) : Prop where
  tab : Tab w M T
  row : ∃ t, w.heap[B]? = some (.cells #[.int .u64 0, .int .u64 0, .map none] t (0, 0))
  ne : B ≠ M
  ge : w0.heap.size ≤ M
  up : ∃ x : Ext w0, w = x.now

theorem MapIn.cells {w0 w : World} {B M : Nat} {T : List (ByteArray × Nat)} (h : MapIn w0 w B M T) : w.cell? ⟨B, 0, none⟩ = some (.int .u64 0) ∧ w.cell? ⟨B, 1, none⟩ = some (.int .u64 0) ∧ w.cell? ⟨B, 2, none⟩ = some (.map none) ∧
    ∀ j, w.frozen? ⟨B, j, none⟩ = false := by
  obtain ⟨t, ht⟩ := h.row
  refine ⟨by rw [cell_of_row _ _ _ _ _ _ ht]; rfl, by rw [cell_of_row _ _ _ _ _ _ ht]; rfl, by rw [cell_of_row _ _ _ _ _ _ ht]; rfl, fun j => ?_⟩
  unfold World.frozen?
  simp only [ht]
  simp

section
variable {ops : Array Oper} {rest : List Oper} {o : Oper} {a : Act} {w w0 : World} {Q : Exit → Act → World → Prop}
theorem wpList_put (hg : o.guard = none) (m k v : Operand) (ho : o.op = .insert 107 m k v) (B M : Nat) (T : List (ByteArray × Nat)) (s : ByteArray) (n : Nat) (hm : a.eval m = .map (some M)) (hk : a.eval k = .string s) (hv : a.eval v = .int .u64 (n : Nat))
    (hT : MapIn w0 w B M T) (hn : look T (nats s) = none) (h : ∀ w', MapIn w0 w' B M (T ++ [(s, n)]) → wpList Tryz.prog ops Q rest (a.put o.dst undef) w') : wpList Tryz.prog ops Q (o :: rest) a w := by
  have hl := hT.tab.lt
  obtain ⟨es, c, h1, h2⟩ := hT.tab
  have h9 : Tryz.prog.underlying 9 = some .string := by kernel_rfl
  have hmt : Tryz.prog.underlying 107 = some (.map 9 106) := by kernel_rfl
  have hck : ∀ b, (Instr.checkKey b 10000 9 (.string s)).run Tryz.prog w = .ok () w := fun b => Go.MapKept.run_checkKey h9 (by trivial) b 9999
  have hf := (find_tab s T es.toList 0 h2).2 hn
  refine wpList_plain hg fun K hK => ?_
  unfold Oper.wp execOp
  simp only [ho, hm, hk, hv]
  simp [Instr.mapUpdate, Sem.run_bind, run_underlying hmt, Go.MapKept.run_getObj_map h1, hck, Go.MapKept.run_findKey h9 hf, Go.MapKept.run_setObj_map _ h1]
  refine hK _ _ (h _ ⟨⟨_, _, by rw [Array.getElem?_setIfInBounds_self_of_lt hl], by simp [h2]⟩, ?_, hT.ne, hT.ge, ?_⟩)
  · obtain ⟨t, ht⟩ := hT.row
    exact ⟨t, by rw [Array.getElem?_setIfInBounds_ne (Ne.symm hT.ne)]; exact ht⟩
  · obtain ⟨x, rfl⟩ := hT.up
    refine Ext.of ⟨x.below.os, x.below.tape, x.below.output, by simpa using x.below.size, fun i hi => ?_⟩
    have hge := hT.ge
    rw [Array.getElem?_setIfInBounds_ne (by omega)]
    exact x.below.block i hi
end
section
variable {P : Program} {ops : Array Oper} {rest : List Oper} {a : Act} {w : World} {Q : Exit → Act → World → Prop}
theorem at_insert (T : TypeId) {m k v : Operand} {d : Option Tmp} {t : TypeId} {p : String} {af : Array Edge} {g : Option (Nat × Bool)} (h : wpList P ops Q (⟨d, .insert T m k v, t, p, af, g⟩ :: rest) a w) : wpList P ops Q (⟨d, .insert T m k v, t, p, af, g⟩ :: rest) a w := h
end

def monT : List (ByteArray × Nat) := [(⟨#[106, 97, 110]⟩, 1), (⟨#[102, 101, 98]⟩, 2), (⟨#[109, 97, 114]⟩, 3), (⟨#[97, 112, 114]⟩, 4), (⟨#[109, 97, 121]⟩, 5), (⟨#[106, 117, 110]⟩, 6), (⟨#[106, 117, 108]⟩, 7), (⟨#[97, 117, 103]⟩, 8), (⟨#[115, 101, 112]⟩, 9), (⟨#[111, 99, 116]⟩, 10), (⟨#[110, 111, 118]⟩, 11), (⟨#[100, 101, 99]⟩, 12)]
def dowT : List (ByteArray × Nat) := [(⟨#[115, 117, 110]⟩, 0), (⟨#[109, 111, 110]⟩, 1), (⟨#[116, 117, 101]⟩, 2), (⟨#[119, 101, 100]⟩, 3), (⟨#[116, 104, 117]⟩, 4), (⟨#[102, 114, 105]⟩, 5), (⟨#[115, 97, 116]⟩, 6)]
def tabOf (k : Nat) : List (ByteArray × Nat) := if k = 4 then monT else if k = 5 then dowT else []

def BoundsRes (k : Nat) (e : Ending) (w' : World) : Prop := ∃ r, e = .returned (.agg #[.int .u64 (kLow k : Nat), .int .u64 (kHigh k : Nat), .map r]) ∧ ((r = none ∧ k ≠ 4 ∧ k ≠ 5) ∨ ∃ M, r = some M ∧ (k = 4 ∨ k = 5) ∧ Tab w' M (tabOf k))

theorem seconds_any (w : World) : Calls Tryz.prog 51 #[] w fun e w' => BoundsRes 0 e w' ∧ ∃ y : Ext w, w' = y.now := by
  go_enter Tryz.func51, Tryz.ntmps51
  go_wp2
  exact bodyPost_ret (v := .agg #[.int .u64 0, .int .u64 59, .map none]) (by simp [results, Tryz.results51, go_sem]) rfl ⟨⟨none, rfl, .inl ⟨rfl, by decide, by decide⟩⟩, Ext.alloc1 _ _⟩

theorem minutes_any (w : World) : Calls Tryz.prog 52 #[] w fun e w' => BoundsRes 1 e w' ∧ ∃ y : Ext w, w' = y.now := by
  go_enter Tryz.func52, Tryz.ntmps52
  go_wp2
  exact bodyPost_ret (v := .agg #[.int .u64 0, .int .u64 59, .map none]) (by simp [results, Tryz.results52, go_sem]) rfl ⟨⟨none, rfl, .inl ⟨rfl, by decide, by decide⟩⟩, Ext.alloc1 _ _⟩

theorem hours_any (w : World) : Calls Tryz.prog 53 #[] w fun e w' => BoundsRes 2 e w' ∧ ∃ y : Ext w, w' = y.now := by
  go_enter Tryz.func53, Tryz.ntmps53
  go_wp2
  exact bodyPost_ret (v := .agg #[.int .u64 0, .int .u64 23, .map none]) (by simp [results, Tryz.results53, go_sem]) rfl ⟨⟨none, rfl, .inl ⟨rfl, by decide, by decide⟩⟩, Ext.alloc1 _ _⟩

theorem dom_any (w : World) : Calls Tryz.prog 54 #[] w fun e w' => BoundsRes 3 e w' ∧ ∃ y : Ext w, w' = y.now := by
  go_enter Tryz.func54, Tryz.ntmps54
  go_wp2
  exact bodyPost_ret (v := .agg #[.int .u64 1, .int .u64 31, .map none]) (by simp [results, Tryz.results54, go_sem]) rfl ⟨⟨none, rfl, .inl ⟨rfl, by decide, by decide⟩⟩, Ext.alloc1 _ _⟩

set_option maxRecDepth 100000 in
theorem months_any (w : World) : Calls Tryz.prog 55 #[] w fun e w' => BoundsRes 4 e w' ∧ ∃ y : Ext w, w' = y.now := by
  have hmk : ∀ W, (Instr.makeMap 107 none).run Tryz.prog W = .ok (.map (some W.heap.size)) (W.alloc (.map #[] 0)) := fun _ => rfl
  have H0 := Lib.hid (show MapIn w ((w.alloc (.cells #[.int .u64 0, .int .u64 0, .map none] 109)).alloc (.map #[] 0)) w.heap.size (w.heap.size + 1) [] from by
    refine ⟨⟨#[], 0, ?_, rfl⟩, ⟨109, ?_⟩, by omega, by omega, ⟨(Ext.one _ _).trans (Ext.one _ _), rfl⟩⟩
    · have := heap_alloc_new (w.alloc (.cells #[.int .u64 0, .int .u64 0, .map none] 109)) (.map #[] 0)
      simpa using this
    · rw [Below.heap_alloc _ _ _ (by simp)]
      exact heap_alloc_new w _)
  go_enter Tryz.func55, Tryz.ntmps55
  go_wp2_with (first
    | ((with_reducible refine at_insert 107 ?_); (refine wpList_put rfl _ _ _ rfl w.heap.size (w.heap.size + 1) [] ⟨#[106, 97, 110]⟩ 1 rfl rfl rfl H0.out (by decide) ?_); intro w1 h1; have H1 := Lib.hid h1; clear h1)
    | ((with_reducible refine at_insert 107 ?_); (refine wpList_put rfl _ _ _ rfl w.heap.size (w.heap.size + 1) [(⟨#[106, 97, 110]⟩, 1)] ⟨#[102, 101, 98]⟩ 2 rfl rfl rfl H1.out (by decide) ?_); intro w2 h2; have H2 := Lib.hid h2; clear h2)
    | ((with_reducible refine at_insert 107 ?_); (refine wpList_put rfl _ _ _ rfl w.heap.size (w.heap.size + 1) [(⟨#[106, 97, 110]⟩, 1), (⟨#[102, 101, 98]⟩, 2)] ⟨#[109, 97, 114]⟩ 3 rfl rfl rfl H2.out (by decide) ?_); intro w3 h3; have H3 := Lib.hid h3; clear h3)
    | ((with_reducible refine at_insert 107 ?_); (refine wpList_put rfl _ _ _ rfl w.heap.size (w.heap.size + 1) [(⟨#[106, 97, 110]⟩, 1), (⟨#[102, 101, 98]⟩, 2), (⟨#[109, 97, 114]⟩, 3)] ⟨#[97, 112, 114]⟩ 4 rfl rfl rfl H3.out (by decide) ?_); intro w4 h4; have H4 := Lib.hid h4; clear h4)
    | ((with_reducible refine at_insert 107 ?_); (refine wpList_put rfl _ _ _ rfl w.heap.size (w.heap.size + 1) [(⟨#[106, 97, 110]⟩, 1), (⟨#[102, 101, 98]⟩, 2), (⟨#[109, 97, 114]⟩, 3), (⟨#[97, 112, 114]⟩, 4)] ⟨#[109, 97, 121]⟩ 5 rfl rfl rfl H4.out (by decide) ?_); intro w5 h5; have H5 := Lib.hid h5; clear h5)
    | ((with_reducible refine at_insert 107 ?_); (refine wpList_put rfl _ _ _ rfl w.heap.size (w.heap.size + 1) [(⟨#[106, 97, 110]⟩, 1), (⟨#[102, 101, 98]⟩, 2), (⟨#[109, 97, 114]⟩, 3), (⟨#[97, 112, 114]⟩, 4), (⟨#[109, 97, 121]⟩, 5)] ⟨#[106, 117, 110]⟩ 6 rfl rfl rfl H5.out (by decide) ?_); intro w6 h6; have H6 := Lib.hid h6; clear h6)
    | ((with_reducible refine at_insert 107 ?_); (refine wpList_put rfl _ _ _ rfl w.heap.size (w.heap.size + 1) [(⟨#[106, 97, 110]⟩, 1), (⟨#[102, 101, 98]⟩, 2), (⟨#[109, 97, 114]⟩, 3), (⟨#[97, 112, 114]⟩, 4), (⟨#[109, 97, 121]⟩, 5), (⟨#[106, 117, 110]⟩, 6)] ⟨#[106, 117, 108]⟩ 7 rfl rfl rfl H6.out (by decide) ?_); intro w7 h7; have H7 := Lib.hid h7; clear h7)
    | ((with_reducible refine at_insert 107 ?_); (refine wpList_put rfl _ _ _ rfl w.heap.size (w.heap.size + 1) [(⟨#[106, 97, 110]⟩, 1), (⟨#[102, 101, 98]⟩, 2), (⟨#[109, 97, 114]⟩, 3), (⟨#[97, 112, 114]⟩, 4), (⟨#[109, 97, 121]⟩, 5), (⟨#[106, 117, 110]⟩, 6), (⟨#[106, 117, 108]⟩, 7)] ⟨#[97, 117, 103]⟩ 8 rfl rfl rfl H7.out (by decide) ?_); intro w8 h8; have H8 := Lib.hid h8; clear h8)
    | ((with_reducible refine at_insert 107 ?_); (refine wpList_put rfl _ _ _ rfl w.heap.size (w.heap.size + 1) [(⟨#[106, 97, 110]⟩, 1), (⟨#[102, 101, 98]⟩, 2), (⟨#[109, 97, 114]⟩, 3), (⟨#[97, 112, 114]⟩, 4), (⟨#[109, 97, 121]⟩, 5), (⟨#[106, 117, 110]⟩, 6), (⟨#[106, 117, 108]⟩, 7), (⟨#[97, 117, 103]⟩, 8)] ⟨#[115, 101, 112]⟩ 9 rfl rfl rfl H8.out (by decide) ?_); intro w9 h9; have H9 := Lib.hid h9; clear h9)
    | ((with_reducible refine at_insert 107 ?_); (refine wpList_put rfl _ _ _ rfl w.heap.size (w.heap.size + 1) [(⟨#[106, 97, 110]⟩, 1), (⟨#[102, 101, 98]⟩, 2), (⟨#[109, 97, 114]⟩, 3), (⟨#[97, 112, 114]⟩, 4), (⟨#[109, 97, 121]⟩, 5), (⟨#[106, 117, 110]⟩, 6), (⟨#[106, 117, 108]⟩, 7), (⟨#[97, 117, 103]⟩, 8), (⟨#[115, 101, 112]⟩, 9)] ⟨#[111, 99, 116]⟩ 10 rfl rfl rfl H9.out (by decide) ?_); intro w10 h10; have H10 := Lib.hid h10; clear h10)
    | ((with_reducible refine at_insert 107 ?_); (refine wpList_put rfl _ _ _ rfl w.heap.size (w.heap.size + 1) [(⟨#[106, 97, 110]⟩, 1), (⟨#[102, 101, 98]⟩, 2), (⟨#[109, 97, 114]⟩, 3), (⟨#[97, 112, 114]⟩, 4), (⟨#[109, 97, 121]⟩, 5), (⟨#[106, 117, 110]⟩, 6), (⟨#[106, 117, 108]⟩, 7), (⟨#[97, 117, 103]⟩, 8), (⟨#[115, 101, 112]⟩, 9), (⟨#[111, 99, 116]⟩, 10)] ⟨#[110, 111, 118]⟩ 11 rfl rfl rfl H10.out (by decide) ?_); intro w11 h11; have H11 := Lib.hid h11; clear h11)
    | ((with_reducible refine at_insert 107 ?_); (refine wpList_put rfl _ _ _ rfl w.heap.size (w.heap.size + 1) [(⟨#[106, 97, 110]⟩, 1), (⟨#[102, 101, 98]⟩, 2), (⟨#[109, 97, 114]⟩, 3), (⟨#[97, 112, 114]⟩, 4), (⟨#[109, 97, 121]⟩, 5), (⟨#[106, 117, 110]⟩, 6), (⟨#[106, 117, 108]⟩, 7), (⟨#[97, 117, 103]⟩, 8), (⟨#[115, 101, 112]⟩, 9), (⟨#[111, 99, 116]⟩, 10), (⟨#[110, 111, 118]⟩, 11)] ⟨#[100, 101, 99]⟩ 12 rfl rfl rfl H11.out (by decide) ?_); intro w12 h12; have H12 := Lib.hid h12; clear h12; obtain ⟨c0, c1, c2, cf⟩ := H12.out.cells; have f0 := cf 0; have f1 := cf 1; have f2 := cf 2; clear cf))
  obtain ⟨x, hx⟩ := H12.out.up
  have HT := Lib.hid (((H12.out.tab.set w.heap.size 0 (.int .u64 1) (by omega)).set w.heap.size 1 (.int .u64 12) (by omega)).set w.heap.size 2 (.map (some (w.heap.size + 1))) (by omega))
  have HX := Lib.hid (show ∃ y : Ext w, ((w12.setCell ⟨w.heap.size, 0, none⟩ (.int .u64 1)).setCell ⟨w.heap.size, 1, none⟩ (.int .u64 12)).setCell ⟨w.heap.size, 2, none⟩ (.map (some (w.heap.size + 1))) = y.now from by
    rw [hx]
    exact Ext.of (((x.below.setCell (p := ⟨w.heap.size, 0, none⟩) (Nat.le_refl _) _).setCell (p := ⟨w.heap.size, 1, none⟩) (Nat.le_refl _) _).setCell (p := ⟨w.heap.size, 2, none⟩) (Nat.le_refl _) _))
  exact bodyPost_ret (v := .agg #[.int .u64 1, .int .u64 12, .map (some (w.heap.size + 1))]) (by simp [results, Tryz.results55, go_sem, c0, c1, c2]) rfl ⟨⟨some (w.heap.size + 1), rfl, .inr ⟨_, rfl, by decide, HT.out⟩⟩, HX.out⟩

set_option maxRecDepth 100000 in
theorem dow_any (w : World) : Calls Tryz.prog 56 #[] w fun e w' => BoundsRes 5 e w' ∧ ∃ y : Ext w, w' = y.now := by
  have hmk : ∀ W, (Instr.makeMap 107 none).run Tryz.prog W = .ok (.map (some W.heap.size)) (W.alloc (.map #[] 0)) := fun _ => rfl
  have H0 := Lib.hid (show MapIn w ((w.alloc (.cells #[.int .u64 0, .int .u64 0, .map none] 109)).alloc (.map #[] 0)) w.heap.size (w.heap.size + 1) [] from by
    refine ⟨⟨#[], 0, ?_, rfl⟩, ⟨109, ?_⟩, by omega, by omega, ⟨(Ext.one _ _).trans (Ext.one _ _), rfl⟩⟩
    · have := heap_alloc_new (w.alloc (.cells #[.int .u64 0, .int .u64 0, .map none] 109)) (.map #[] 0)
      simpa using this
    · rw [Below.heap_alloc _ _ _ (by simp)]
      exact heap_alloc_new w _)
  go_enter Tryz.func56, Tryz.ntmps56
  go_wp2_with (first
    | ((with_reducible refine at_insert 107 ?_); (refine wpList_put rfl _ _ _ rfl w.heap.size (w.heap.size + 1) [] ⟨#[115, 117, 110]⟩ 0 rfl rfl rfl H0.out (by decide) ?_); intro w1 h1; have H1 := Lib.hid h1; clear h1)
    | ((with_reducible refine at_insert 107 ?_); (refine wpList_put rfl _ _ _ rfl w.heap.size (w.heap.size + 1) [(⟨#[115, 117, 110]⟩, 0)] ⟨#[109, 111, 110]⟩ 1 rfl rfl rfl H1.out (by decide) ?_); intro w2 h2; have H2 := Lib.hid h2; clear h2)
    | ((with_reducible refine at_insert 107 ?_); (refine wpList_put rfl _ _ _ rfl w.heap.size (w.heap.size + 1) [(⟨#[115, 117, 110]⟩, 0), (⟨#[109, 111, 110]⟩, 1)] ⟨#[116, 117, 101]⟩ 2 rfl rfl rfl H2.out (by decide) ?_); intro w3 h3; have H3 := Lib.hid h3; clear h3)
    | ((with_reducible refine at_insert 107 ?_); (refine wpList_put rfl _ _ _ rfl w.heap.size (w.heap.size + 1) [(⟨#[115, 117, 110]⟩, 0), (⟨#[109, 111, 110]⟩, 1), (⟨#[116, 117, 101]⟩, 2)] ⟨#[119, 101, 100]⟩ 3 rfl rfl rfl H3.out (by decide) ?_); intro w4 h4; have H4 := Lib.hid h4; clear h4)
    | ((with_reducible refine at_insert 107 ?_); (refine wpList_put rfl _ _ _ rfl w.heap.size (w.heap.size + 1) [(⟨#[115, 117, 110]⟩, 0), (⟨#[109, 111, 110]⟩, 1), (⟨#[116, 117, 101]⟩, 2), (⟨#[119, 101, 100]⟩, 3)] ⟨#[116, 104, 117]⟩ 4 rfl rfl rfl H4.out (by decide) ?_); intro w5 h5; have H5 := Lib.hid h5; clear h5)
    | ((with_reducible refine at_insert 107 ?_); (refine wpList_put rfl _ _ _ rfl w.heap.size (w.heap.size + 1) [(⟨#[115, 117, 110]⟩, 0), (⟨#[109, 111, 110]⟩, 1), (⟨#[116, 117, 101]⟩, 2), (⟨#[119, 101, 100]⟩, 3), (⟨#[116, 104, 117]⟩, 4)] ⟨#[102, 114, 105]⟩ 5 rfl rfl rfl H5.out (by decide) ?_); intro w6 h6; have H6 := Lib.hid h6; clear h6)
    | ((with_reducible refine at_insert 107 ?_); (refine wpList_put rfl _ _ _ rfl w.heap.size (w.heap.size + 1) [(⟨#[115, 117, 110]⟩, 0), (⟨#[109, 111, 110]⟩, 1), (⟨#[116, 117, 101]⟩, 2), (⟨#[119, 101, 100]⟩, 3), (⟨#[116, 104, 117]⟩, 4), (⟨#[102, 114, 105]⟩, 5)] ⟨#[115, 97, 116]⟩ 6 rfl rfl rfl H6.out (by decide) ?_); intro w7 h7; have H7 := Lib.hid h7; clear h7; obtain ⟨c0, c1, c2, cf⟩ := H7.out.cells; have f0 := cf 0; have f1 := cf 1; have f2 := cf 2; clear cf))
  obtain ⟨x, hx⟩ := H7.out.up
  have HT := Lib.hid (((H7.out.tab.set w.heap.size 0 (.int .u64 0) (by omega)).set w.heap.size 1 (.int .u64 6) (by omega)).set w.heap.size 2 (.map (some (w.heap.size + 1))) (by omega))
  have HX := Lib.hid (show ∃ y : Ext w, ((w7.setCell ⟨w.heap.size, 0, none⟩ (.int .u64 0)).setCell ⟨w.heap.size, 1, none⟩ (.int .u64 6)).setCell ⟨w.heap.size, 2, none⟩ (.map (some (w.heap.size + 1))) = y.now from by
    rw [hx]
    exact Ext.of (((x.below.setCell (p := ⟨w.heap.size, 0, none⟩) (Nat.le_refl _) _).setCell (p := ⟨w.heap.size, 1, none⟩) (Nat.le_refl _) _).setCell (p := ⟨w.heap.size, 2, none⟩) (Nat.le_refl _) _))
  exact bodyPost_ret (v := .agg #[.int .u64 0, .int .u64 6, .map (some (w.heap.size + 1))]) (by simp [results, Tryz.results56, go_sem, c0, c1, c2]) rfl ⟨⟨some (w.heap.size + 1), rfl, .inr ⟨_, rfl, by decide, HT.out⟩⟩, HX.out⟩

end Go.Proofs.YtopcjlimjkfoiaaGreatDoor
namespace Go.Proofs.YtopcjlimjkfoiaaGreatDoor
open Go.RowKit
attribute [local go_sem] Ext.cell Ext.frozen Ext.lt Ext.lt_add Ext.cell2 Ext.frozen2

theorem low_up : ∀ (l : List Nat), (∀ u ∈ l.map upc, 65 ≤ u ∧ u ≤ 90) → l.map lowc = (l.map upc).map (· + 32)
  | [], _ => rfl
  | c :: r, h => by
    have h1 := h (upc c) (by simp)
    have h2 := low_up r fun u hu => h u (by rw [List.map_cons]; exact List.mem_cons_of_mem _ hu)
    have h3 : lowc c = upc c + 32 := by
      unfold upc at h1 ⊢
      unfold lowc
      by_cases h5 : 97 ≤ c ∧ c ≤ 122
      · rw [if_pos h5] at h1 ⊢
        rw [if_neg (by omega)]
        omega
      · rw [if_neg h5] at h1 ⊢
        rw [if_pos h1]
    simp only [List.map_cons, h2, h3]

theorem look_name {k n : Nat} {l : List Nat} (h : IsName k n l) : look (tabOf k) (l.map lowc) = some n := by
  obtain ⟨hk, h1, h2, h3⟩ := h
  rcases hk with rfl | rfl
  · have hv : n = 1 ∨ n = 2 ∨ n = 3 ∨ n = 4 ∨ n = 5 ∨ n = 6 ∨ n = 7 ∨ n = 8 ∨ n = 9 ∨ n = 10 ∨ n = 11 ∨ n = 12 := by
      have : kLow (4 : Nat) = 1 := rfl
      have : kHigh (4 : Nat) = 12 := rfl
      omega
    rcases hv with rfl | rfl | rfl | rfl | rfl | rfl | rfl | rfl | rfl | rfl | rfl | rfl
    all_goals
      rw [low_up l (by rw [← h3]; decide), ← h3]
      decide
  · have hv : n = 0 ∨ n = 1 ∨ n = 2 ∨ n = 3 ∨ n = 4 ∨ n = 5 ∨ n = 6 := by
      have : kHigh (5 : Nat) = 6 := rfl
      omega
    rcases hv with rfl | rfl | rfl | rfl | rfl | rfl | rfl
    all_goals
      rw [low_up l (by rw [← h3]; decide), ← h3]
      decide

theorem look_digs {k : Nat} {l : List Nat} (h : digs l) : look (tabOf k) (l.map lowc) = none := by
  obtain ⟨h1, h2⟩ := h
  cases l with
  | nil => exact absurd rfl h1
  | cons c r =>
    have hd := dig_iff.1 (h2 c (List.mem_cons_self ..))
    have hl : lowc c = c := by unfold lowc; rw [if_neg (by omega)]
    unfold look
    rw [List.find?_eq_none.2]
    · rfl
    · intro x hx
      have hh : ∀ y ∈ tabOf k, 97 ≤ (nats y.1).headD 0 := by
        unfold tabOf
        split
        · decide +kernel
        · split
          · decide +kernel
          · intro y hy; cases hy
      have ha := hh x hx
      rw [List.map_cons, hl]
      simp only [decide_eq_true_eq]
      intro e2
      rw [e2] at ha
      simp at ha
      omega

theorem val_ascii {k n : Nat} {s : ByteArray} (h : ValFine k (nats s) n) : ∀ i (hi : i < s.size), (s[i]'hi).toNat < 128 := by
  intro i hi
  have hm : (s[i]'hi).toNat ∈ nats s := by
    have := getD_mem (l := nats s) (i := i) (by rw [nats_length]; exact hi)
    rwa [nats_at s i hi] at this
  rcases h with ⟨hk, h1, h2, h3⟩ | ⟨_, ⟨hd, _⟩⟩
  · have hu : ∀ u ∈ (nats (nameB k n)).map upc, u < 128 := by
      rcases hk with rfl | rfl
      · have hv : n = 1 ∨ n = 2 ∨ n = 3 ∨ n = 4 ∨ n = 5 ∨ n = 6 ∨ n = 7 ∨ n = 8 ∨ n = 9 ∨ n = 10 ∨ n = 11 ∨ n = 12 := by
          have : kLow (4 : Nat) = 1 := rfl
          have : kHigh (4 : Nat) = 12 := rfl
          omega
        rcases hv with rfl | rfl | rfl | rfl | rfl | rfl | rfl | rfl | rfl | rfl | rfl | rfl
        all_goals decide
      · have hv : n = 0 ∨ n = 1 ∨ n = 2 ∨ n = 3 ∨ n = 4 ∨ n = 5 ∨ n = 6 := by
          have : kHigh (5 : Nat) = 6 := rfl
          omega
        rcases hv with rfl | rfl | rfl | rfl | rfl | rfl | rfl
        all_goals decide
    rw [h3] at hu
    have h4 := hu _ (List.mem_map_of_mem hm)
    unfold upc at h4
    split at h4 <;> omega
  · have := dig_iff.1 (hd.2 _ hm)
    omega

set_option maxRecDepth 100000 in
theorem pin_any (k n : Nat) (r : Option Nat) (s : ByteArray) (w : World) (hr : (r = none ∧ k ≠ 4 ∧ k ≠ 5) ∨ ∃ M, r = some M ∧ (k = 4 ∨ k = 5) ∧ Tab w M (tabOf k)) (hv : ValFine k (nats s) n) (hn : n < 1099511627776) (hs : s.size < 1000000000) :
    Calls Tryz.prog 100 #[.string s, .map r] w fun e w' => e = .returned (.tuple #[.int .u64 n, .nilIface]) ∧ ∃ y : Ext w, w' = y.now := by
  have hlw := Lib.hid (fun (W : World) => zzLower_any s (val_ascii hv) (by omega) W)
  rcases hr with ⟨rfl, h4, h5⟩ | ⟨M, rfl, hk, hT⟩
  · have hnum : NumFine (nats s) n := by
      rcases hv with ⟨hk, _⟩ | ⟨_, h⟩
      · unfold named at hk; omega
      · exact h
    have hmu := Lib.hid (fun (W : World) => must_any s n hnum hn (by omega) W)
    have hne : ∀ W, (binOp .neq 107 (.map none) (.map none)).run Tryz.prog W = .ok (.bool false) W := fun _ => by kernel_rfl
    clear hnum hv
    go_enter Tryz.func100, Tryz.ntmps100
    go_wp2_with (go_at_call 101; (with_reducible refine (hmu.out _).mono ?_); rintro e w9 ⟨rfl, y, rfl⟩)
    go_ret2
    exact ⟨rfl, y, rfl⟩
  · have hne : ∀ W, (binOp .neq 107 (.map (some M)) (.map none)).run Tryz.prog W = .ok (.bool true) W := fun _ => by kernel_rfl
    rcases hv with hname | ⟨_, hnum⟩
    · have HLK := Lib.hid (look_name hname)
      clear hname
      go_enter Tryz.func100, Tryz.ntmps100
      go_wp2_with (go_at_call 109; (with_reducible refine (hlw.out _).mono ?_))
      rintro e w9 ⟨t, rfl, ht, y, rfl⟩
      have hlk := (look_run (hT.ext y) t).1 n (by rw [ht]; exact HLK.out)
      clear ht
      go_wp2_with fail
      go_ret2
      exact ⟨rfl, y, rfl⟩
    · have HLK := Lib.hid (look_digs (k := k) hnum.1)
      have hmu := Lib.hid (fun (W : World) => must_any s n hnum hn (by omega) W)
      clear hnum
      go_enter Tryz.func100, Tryz.ntmps100
      go_wp2_with (go_at_call 109; (with_reducible refine (hlw.out _).mono ?_))
      rintro e w9 ⟨t, rfl, ht, y, rfl⟩
      have hlk := (look_run (hT.ext y) t).2 (by rw [ht]; exact HLK.out)
      clear ht
      go_wp2_with (go_at_call 101; (with_reducible refine (hmu.out _).mono ?_); rintro e w9 ⟨rfl, y2, rfl⟩)
      go_ret2
      exact ⟨rfl, y.trans y2, rfl⟩

end Go.Proofs.YtopcjlimjkfoiaaGreatDoor
