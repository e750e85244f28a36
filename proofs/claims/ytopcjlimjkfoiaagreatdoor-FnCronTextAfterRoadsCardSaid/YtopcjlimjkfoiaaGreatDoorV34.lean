/-
laws.FnCronTextAfterRoads answers true for all options, heads, texts, instants and zones, and leaves its arguments as they were; the variables that its row lists are tied to the program's text, no other condition is laid on the input.
-/
import Derived.Test.YtopcjlimjkfoiaaGreatDoorV33
import Derived.Test.YtopcjlimjkfoiaaGreatDoorCards
import Derived.Test.YtopcjlimjkfoiaaGreatDoorTie
import Derived.WalkKit
import Derived.ProofKit
import Derived.OpenShut
import Derived.LaidMore
import Derived.Lay
import Derived.Carry
import Derived.SevenTiedAt
import Derived.Stop.Joined
import Derived.Lib.SmallJoins
import Derived.Deep.Grids
import Derived.ChangeMaps5
set_option linter.all false
namespace Go.Proofs.YtopcjlimjkfoiaaGreatDoor
open Go.ChangeShapes Go.WideShapes Go.ChangeAt Go.RowKit Go.Joins Go.Deep

theorem own : ownKnob Tryz.prog.godebug = none := by kernel_rfl
theorem laidOut : laidOutB Tryz.prog = true := by kernel_rfl
theorem cellsI : Tryz.prog.cellsOf 23 = 2 := by kernel_rfl
theorem cellsZ : Tryz.prog.cellsOf 28 = 4 := by kernel_rfl
theorem cells2 : Tryz.prog.cellsOf 2 = 1 := by kernel_rfl
theorem cells3 : Tryz.prog.cellsOf 3 = 1 := by kernel_rfl
theorem cells4 : Tryz.prog.cellsOf 4 = 1 := by kernel_rfl

theorem below_all {H : Type} {enc : TypeId × Value → H} {P : Program} (hl : laidOutB P = true) {W W' : World} (hb : Below W.heap.size W W') :
    ∀ {ts : List TypeId} {vs : List Value} {ds : List (DataW H)} {ps : List MemPlace}, (∀ t ∈ ts, P.readableRec t = true ∧ t < P.types.size) → DataW.TrodAll enc P W 0 (fun _ => true) true ts vs ds ps → (∀ x ∈ ps, x.block < W.heap.size) →
      DataW.TrodAll enc P W' 0 (fun b => decide (b < W.heap.size)) true ts vs ds ps
  | [], [], [], _, _, h, _ => h
  | _ :: _, _ :: _, _ :: _, _, hT, ⟨p, q, h1, h2, e⟩, hs =>
    ⟨p, q, Below.trod hl (hT _ (List.mem_cons_self ..)).1 (hT _ (List.mem_cons_self ..)).2 h1 hb (fun x hx => hs x (by rw [e]; exact List.mem_append_left _ hx)),
      below_all hl hb (fun t ht => hT t (List.mem_cons_of_mem _ ht)) h2 (fun x hx => hs x (by rw [e]; exact List.mem_append_right _ hx)), e⟩

section
variable {H : Type} {enc : TypeId × Value → H} {W : World} {held : Bool}
theorem irow_of {t e : TypeId} {n : Nat} {v : Value} {x : DataW H × List MemPlace} (ht : Tryz.prog.underlying t = some (.slice e)) (he : Tryz.prog.underlying e = some (.int .i64)) (hc : Tryz.prog.cellsOf e = 1)
    (h : DataW.trod enc Tryz.prog W 0 (fun _ => true) held n t [v] = some x) : ∃ l, IRow W v l := by
  rcases open_ints ht he hc h with ⟨hv, _⟩ | ⟨a, len, cap, zs, hv, _, hl, _, hz, _, hcell, _⟩
  · obtain rfl : v = .slice none 0 0 := by simpa using hv
    exact ⟨[], none, 0, rfl, fun h => absurd rfl h⟩
  · obtain rfl : v = .slice (some a) len cap := by simpa using hv
    simp only [if_true] at hz
    have hlen : (zs.take len).length = len := by rw [List.length_take]; omega
    refine ⟨zs.take len, some a, cap, by rw [hlen], fun hne => ?_⟩
    have hpos : 0 < len := by
      rcases Nat.eq_zero_or_pos len with h | h
      · rw [h, List.take_zero] at hne; exact absurd rfl hne
      · exact h
    have h0 := hcell 0 (by omega)
    obtain ⟨b, off, spot⟩ := a
    have hspot : spot = none := by simpa [Addr.add] using World.cell?_spot h0
    subst hspot
    refine ⟨b, off, rfl, World.block_lt_of_cell? _ _ (by simpa [Addr.add] using h0), by rw [hlen]; exact hl, fun i hi => ?_⟩
    rw [hlen] at hi
    have hi2 := hcell i (by omega)
    have ea : (Addr.mk b off none).add i = ⟨b, off + i, none⟩ := by unfold Addr.add; split <;> simp_all
    rw [ea] at hi2
    rw [hi2, List.getD_eq_getElem?_getD, List.getD_eq_getElem?_getD, List.getElem?_take, if_pos hi]

theorem brow_of {t e : TypeId} {n : Nat} {v : Value} {x : DataW H × List MemPlace} (ht : Tryz.prog.underlying t = some (.slice e)) (he : Tryz.prog.underlying e = some .bool) (hc : Tryz.prog.cellsOf e = 1)
    (h : DataW.trod enc Tryz.prog W 0 (fun _ => true) held n t [v] = some x) : ∃ m, BRow W v m := by
  rcases open_bools ht he hc h with ⟨hv, _⟩ | ⟨a, len, cap, B, hv, _, hl, _, _, hcell⟩
  · obtain rfl : v = .slice none 0 0 := by simpa using hv
    exact ⟨0, none, 0, rfl, fun h => absurd h (Nat.not_lt_zero _)⟩
  · obtain rfl : v = .slice (some a) len cap := by simpa using hv
    refine ⟨len, some a, cap, rfl, fun hpos => ?_⟩
    have h0 := hcell 0 (by omega)
    obtain ⟨b, off, spot⟩ := a
    have hspot : spot = none := by simpa [Addr.add] using World.cell?_spot h0
    subst hspot
    refine ⟨b, off, rfl, World.block_lt_of_cell? _ _ (by simpa [Addr.add] using h0), hl, fun i hi => ⟨B i, ?_⟩⟩
    have hi2 := hcell i (by omega)
    have ea : (Addr.mk b off none).add i = ⟨b, off + i, none⟩ := by unfold Addr.add; split <;> simp_all
    rw [ea] at hi2
    exact hi2
end

set_option maxRecDepth 1000000 in
theorem contract (H : Type) (enc : TypeId × Value → H) (W : World) (base : Nat) (args : Array Value) (ds gs : List (DataW H)) (before : List MemPlace)
    (hval : ∀ (j : Nat) t v, Tryz.f3.params[j]? = some t → args[j]? = some v → Value.okWide Tryz.prog W .any base t v)
    (hW : DataW.Whole enc Tryz.prog Tryz.f3.params.toList Rows.fnCronTextAfterRoadsSpec.vars false W args.toList ds gs before) :
    Calls Tryz.prog 3 args W fun e W' => ∃ v, e = .returned v ∧ Rows.fnCronTextAfterRoadsSpec.post enc Tryz.prog Tryz.f3 false true false false W args v W' := by
  have hW' := hW
  have hlt := hW.lt
  obtain ⟨p, q, hA0, hV, rfl, hfz, hnd⟩ := hW
  have hA : DataW.TrodAll enc Tryz.prog W 0 (fun _ => true) true Tryz.f3.params.toList args.toList ds p := hA0
  have hA2 := hA
  rw [Tryz.params3] at hA hval
  obtain ⟨v0, vs1, d0, ds1, p0, q0, hargs, rfl, rfl, h0, hA⟩ := trodAll_cons hA
  obtain ⟨v1, vs2, d1, ds2, p1, q1, rfl, rfl, rfl, h1, hA⟩ := trodAll_cons hA
  obtain ⟨v2, vs3, d2, ds3, p2, q2, rfl, rfl, rfl, h2, hA⟩ := trodAll_cons hA
  obtain ⟨v3, vs4, d3, ds4, p3, q3, rfl, rfl, rfl, h3, hA⟩ := trodAll_cons hA
  obtain ⟨v4, vs5, d4, ds5, p4, q4, rfl, rfl, rfl, h4, hA⟩ := trodAll_cons hA
  obtain ⟨rfl, rfl, rfl⟩ := trodAll_nil hA
  obtain rfl : args = #[v0, v1, v2, v3, v4] := by cases args; simp_all
  obtain ⟨rfl, rfl⟩ := trodVars_none hV
  obtain ⟨o, rfl, rfl, rfl, wo⟩ := open_int Tryz.underlying3 (hval 0 3 v0 rfl rfl) h0
  obtain ⟨k, rfl, rfl, rfl, wk⟩ := open_int Tryz.underlying3 (hval 1 3 v1 rfl rfl) h1
  obtain ⟨t, rfl, rfl, rfl, wt⟩ := Go.ChangeMaps.open_string Tryz.underlying9 (hval 2 9 v2 rfl rfl) h2
  obtain ⟨i0, i1, y0, y1, m, rfl, rfl, rfl, hy0, hy1⟩ := open_agg2 Tryz.underlying23 (by kernel_rfl) cellsI (hval 3 23 v3 rfl rfl) h3
  obtain ⟨s, e0, rfl, ws⟩ := DataW.trod_int Tryz.underlying2 hy0
  obtain ⟨n, e1, rfl, wn⟩ := DataW.trod_int Tryz.underlying3 hy1
  simp at e0 e1
  subst e0 e1
  obtain ⟨z0, z1, z2, z3, x0, x1, x2, x3, m2, rfl, rfl, rfl, hx0, hx1, hx2, hx3⟩ := open_agg4 Tryz.underlying28 (by kernel_rfl) cellsZ (hval 4 28 v4 rfl rfl) h4
  obtain ⟨O, hO⟩ := irow_of Tryz.underlying24 Tryz.underlying3 cells3 hx0
  obtain ⟨nd, hD⟩ := brow_of Tryz.underlying25 Tryz.underlying4 cells4 hx1
  obtain ⟨Wh, hWh⟩ := irow_of Tryz.underlying26 Tryz.underlying2 cells2 hx2
  obtain ⟨I, hI⟩ := irow_of Tryz.underlying24 Tryz.underlying3 cells3 hx3
  refine (law_any o k s n t hO hD hWh hI).mono fun e W' ⟨he, hw⟩ => ?_
  obtain ⟨x, rfl⟩ := hw
  subst he
  refine ⟨_, rfl, _, _, _, [], _, [], hW', trodAll_mk1 (shut_bool Tryz.underlying4 _), below_all laidOut x.below (fun t ht => ?_) hA2 (fun y hy => by simpa using hlt y (by simpa using hy)), rfl, x.below.frame _, fun h => by cases h⟩
  have hall : (Tryz.f3.params.toList.all fun u => Tryz.prog.readableRec u && decide (u < Tryz.prog.types.size)) = true := by kernel_rfl
  simpa using List.all_eq_true.1 hall t ht

set_option maxRecDepth 100000 in
theorem lifted (os : Os) (started : os.Started) (H : Type) (enc : TypeId × Value → H) :
    ReturnsInHanded {} Tryz.checked os 3 .any (fun w args => (Rows.fnCronTextAfterRoadsSpec.pre enc Tryz.prog Tryz.f3 Rows.fnCronTextAfterRoadsRow.domain false w args ∧ laidMetH Tryz.prog Rows.fnCronTextAfterRoadsRow.laid w) ∧ sizedMet enc Tryz.prog Tryz.f3 (OpenSpec.ofChange Rows.fnCronTextAfterRoadsSpec) false w args)
      (Rows.fnCronTextAfterRoadsSpec.post enc Tryz.prog Tryz.f3 false true false false) := by
  refine returnsInHanded_of_change_and (C := Tryz.checked) (X := fun w _ => laidMetH Tryz.prog Rows.fnCronTextAfterRoadsRow.laid w) (fun _ _ _ hh h => h.of_heap hh) own started (by kernel_rfl) Tryz.func3
    (ChangeSpec.witness_shaped (enc := enc) (C := Tryz.checked) (os := os) (X := fun w _ => laidMetH Tryz.prog Rows.fnCronTextAfterRoadsRow.laid w) false (World.laidAll Tryz.prog os Rows.fnCronTextAfterRoadsRow.laid) #[.int .i64 0, .int .i64 0, .string ⟨#[]⟩, .agg #[.int .i64 0, .int .i64 0], .agg #[.slice none 0 0, .slice none 0 0, .slice none 0 0, .slice none 0 0]] 8 (World.laidAll_os _ _ _)
      (World.shaped_of_ZipB (by kernel_rfl) (by kernel_rfl)) (by kernel_rfl) (by kernel_rfl) (by kernel_rfl)
      (by rw [MakeChecks.laidMetH_plain _ _ _ (by kernel_rfl)]; exact laidMet_laidAll _ (by kernel_rfl) (by kernel_rfl))) ?_
  intro W base args ds gs before hval0 hW _ _ _ _
  exact contract H enc W base args ds gs before hval0 hW

theorem said : Rows.FnCronTextAfterRoadsSaid :=
  OpenClaim.holds_of_wide 3 Tryz.f3 rfl rfl rfl rfl rfl rfl rfl ⟨rfl, rfl, rfl, rfl, rfl⟩ rfl rfl rfl rfl rfl (by kernel_rfl) Tryz.func3 (by kernel_rfl)
    (of_decide_eq_true (by kernel_rfl)) (by unfold Func.isWrapper; first | (rw [if_pos (by decide +kernel)]; kernel_rfl) | (rw [if_neg (by decide +kernel)]; exact ⟨rfl, rfl⟩))
    (fun os started H enc _ => lifted os started H enc)

theorem plainRow (f : FuncId) (fn : Func) (hf : Tryz.pinned.checked.prog.funcNamed "pub-timebook/laws.FnCronTextAfterRoads" = some f) (hfn : Tryz.pinned.checked.prog.funcs[f]? = some fn) :
    true = Tryz.pinned.checked.prog.looks [] ∧ ∀ (j : Nat) t, fn.params[j]? = some t → Tryz.pinned.checked.prog.wantsStandIn t = false := by
  obtain rfl : f = 3 := Option.some.inj ((show Tryz.prog.funcNamed "pub-timebook/laws.FnCronTextAfterRoads" = some 3 by kernel_rfl).symm.trans hf) |>.symm
  obtain rfl : fn = Tryz.f3 := (Option.some.inj (Tryz.func3.symm.trans hfn)).symm
  refine ⟨by kernel_rfl, fun j t ht => ?_⟩
  have hm : t ∈ Tryz.f3.params.toList := by simpa using Array.mem_of_getElem? ht
  have hall : (Tryz.f3.params.toList.all fun u => !Tryz.prog.wantsStandIn u) = true := by kernel_rfl
  exact (show Tryz.prog.wantsStandIn t = false by simpa using List.all_eq_true.1 hall t hm)

theorem card : Rows.FnCronTextAfterRoadsCardSaid :=
  Claim7.holds_tied_plain_at .later [] _ _ _ _ said (fun _ h => by cases h) (by kernel_rfl) (fun _ h => by cases h) fnCronTextAfterRoads_row_tie rfl ⟨rfl, rfl⟩ (by kernel_rfl) rfl plainRow (by kernel_rfl)

#print axioms card

end Go.Proofs.YtopcjlimjkfoiaaGreatDoor
