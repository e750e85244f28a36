/-
FnRefPrintParses: the regular expressions, the digest and the reference, part 24 of 25.
-/
import Derived.Test.YtooggfopjaaejaaGreatDoorV23
import Derived.Laws.IdiomStrings
import Derived.Test.YtooggfopjaaejaaGreatDoorV22
import Derived.Test.YtooggfopjaaejaaGreatDoorV18
set_option linter.all false
namespace Go.Proofs.YtooggfopjaaejaaGreatDoor
open Go.RowKit Go.Rx
attribute [local go_sem] Ext.cell Ext.frozen Ext.lt Ext.lt_add Ext.cell2 Ext.frozen2

def byteVals (l : List UInt8) : List Value := l.map fun b => .int .u8 ((b.toNat : Nat) : Int)

theorem byteVals_set (l : List UInt8) (k : Nat) (b : UInt8) : (byteVals l).set k (.int .u8 ((b.toNat : Nat) : Int)) = byteVals (l.set k b) := by
  unfold byteVals
  rw [List.map_set]

theorem byte_info : (Tryz.prog.info? 5).map (fun i => (i.zero, i.size, i.bytes)) = some (some (.int .u8 0), 1, 1) := by kernel_rfl

theorem made_bytes (n : Nat) : List.replicate n (Value.int .u8 0) = byteVals (List.replicate n 0) := by
  unfold byteVals
  rw [List.map_replicate]
  rfl

set_option maxRecDepth 100000 in
set_option maxHeartbeats 2000000 in
/-- RefSmall -/
theorem small_any (s : ByteArray) (w : World) (hs : s.size < 100000000000) :
    Calls Tryz.prog 31 #[.string s] w fun e w' => ∃ t : ByteArray, e = .returned (.string t) ∧ t.size = s.size ∧ ∃ y : Ext w, w' = y.now := by
  go_enter Tryz.func31, Tryz.ntmps31
  go_wp2_with (at_make; refine make_blk _ rfl (.tmp 6) (.tmp 6) 87 5 rfl _ 1 1 (by kernel_rfl) byte_info .i64 .i64 s.size s.size rfl rfl (Nat.le_refl _) (by omega) (by omega) _ rfl ?_)
  intro w1 b1 c1 z1
  rw [made_one, made_bytes] at b1
  obtain ⟨G, hG⟩ : ∃ G, w.heap.size = G := ⟨_, rfl⟩
  rw [hG] at b1 z1 ⊢
  have C1 := Lib.hid c1
  have B1 := Lib.hid b1
  clear b1 c1
  go_wp2_with fail
  go_loopw [10] (fun t wr => ∃ (k : Nat) (l : List UInt8), t = .int .i64 k ∧ k ≤ s.size ∧ l.length = s.size ∧ Blk wr G (byteVals l) 5 ∧ Chg [G] w1 wr) (fun t _ => s.size - (intOf t).toNat)
  case atStart => exact ⟨0, _, rfl, Nat.zero_le _, by simp, B1.out, (Chg.refl w1).mono (fun _ h => by cases h)⟩
  case round =>
    obtain ⟨k, l, rfl, hks, hll, hb, hc⟩ := hrel
    by_cases hlt : k < s.size
    · have hlt' : (k : Int) < (s.size : Int) := by omega
      have p0 : (0 : Int) ≤ (k : Int) := by omega
      have d1 : wr.cell? ⟨G, k, none⟩ = some (.int .u8 ((l[k]'(by omega)).toNat : Nat)) := by
        rw [hb.cell]
        unfold byteVals
        rw [List.getElem?_map, List.getElem?_eq_getElem (by omega)]
        rfl
      have f1 := hb.free k
      have gl := hb.lt
      have HB := Lib.hid hb
      have HC := Lib.hid hc
      clear hb hc
      by_cases ha : 65 ≤ (s[k]'hlt).toNat
      · have ha' : (65 : Int) ≤ (((s[k]'hlt).toNat : Nat) : Int) := by omega
        by_cases hz : (s[k]'hlt).toNat ≤ 90
        · have hz' : (((s[k]'hlt).toNat : Nat) : Int) ≤ 90 := by omega
          have hw : (((s[k]'hlt).toNat : Nat) : Int) + 32 = (((s[k]'hlt + 32).toNat : Nat) : Int) := by
            rw [UInt8.toNat_add]
            have : (32 : UInt8).toNat = 32 := rfl
            rw [this, Nat.mod_eq_of_lt (by omega)]
            omega
          have HW := Lib.hid hw
          clear hw
          go_wp2_with fail
          rw [HW.out]
          refine ⟨⟨k + 1, (l.set k (s[k]'hlt)).set k (s[k]'hlt + 32), by simp, by omega, by simp [hll], ?_, ?_⟩, by simp [intOf]; omega⟩
          · rw [← byteVals_set, ← byteVals_set]
            exact (HB.out.set k _).set k _
          · exact ((HC.out.trans (Chg.set _ G k _)).trans (Chg.set _ G k _)).mono (fun b h _ => by simpa using h)
        · have hz' : ¬ (((s[k]'hlt).toNat : Nat) : Int) ≤ 90 := by omega
          go_wp2_with fail
          refine ⟨⟨k + 1, l.set k (s[k]'hlt), by simp, by omega, by simp [hll], ?_, ?_⟩, by simp [intOf]; omega⟩
          · rw [← byteVals_set]
            exact HB.out.set k _
          · exact (HC.out.trans (Chg.set _ G k _)).mono (fun b h _ => by simpa using h)
      · have ha' : ¬ (65 : Int) ≤ (((s[k]'hlt).toNat : Nat) : Int) := by omega
        go_wp2_with fail
        refine ⟨⟨k + 1, l.set k (s[k]'hlt), by simp, by omega, by simp [hll], ?_, ?_⟩, by simp [intOf]; omega⟩
        · rw [← byteVals_set]
          exact HB.out.set k _
        · exact (HC.out.trans (Chg.set _ G k _)).mono (fun b h _ => by simpa using h)
    · have hkn : k = s.size := by omega
      subst hkn
      have hlt' : ¬ ((s.size : Int) < (s.size : Int)) := by omega
      have hcv : ∀ W : World, W = wr → (convert 87 9 (.slice (some ⟨G, 0, none⟩) s.size s.size)).run Tryz.prog W = .ok (.string ⟨l.toArray⟩) W := by
        rintro W rfl
        rw [← hll]
        refine run_convert_bytes_back W 87 9 5 ⟨G, 0, none⟩ l.length l (by kernel_rfl) (by kernel_rfl) (by kernel_rfl) fun j hj => ?_
        have := hb.cell j
        unfold byteVals at this
        rw [List.getElem?_map, List.getElem?_eq_getElem hj] at this
        by_cases h0 : j = 0
        · subst h0; simpa [Addr.add] using this
        · simpa [Addr.add, h0] using this
      have hcv' := hcv wr rfl
      have HB := Lib.hid hb
      have HC := Lib.hid hc
      have HL := Lib.hid hll
      clear hb hc hcv hll
      go_wp2_with fail
      go_ret
      refine ⟨_, rfl, HL.out, Ext.of ((C1.out.trans HC.out).below (Nat.le_refl _) (fun b hb => by simp at hb; omega))⟩

end Go.Proofs.YtooggfopjaaejaaGreatDoor
namespace Go.Proofs.YtooggfopjaaejaaGreatDoor
open Go.RowKit Go.Rx
attribute [local go_sem] Ext.cell Ext.frozen Ext.lt Ext.lt_add Ext.cell2 Ext.frozen2

set_option maxRecDepth 100000 in
/-- refWrong -/
theorem wrong_any (s : ByteArray) (w : World) (hs : s.size < 100000000000) :
    Calls Tryz.prog 14 #[.string s] w fun e w' => ∃ n : Int, e = .returned (.int .i64 n) ∧ n ≠ 0 ∧ ∃ y : Ext w, w' = y.now := by
  have H1 := Lib.hid (small_any s w hs)
  by_cases hz : nats s = []
  · have e : s.toList.isEmpty = true := by rw [empty_nats, decide_eq_true hz]
    clear hz
    go_enter Tryz.func14, Tryz.ntmps14
    go_wp2_with fail
    go_ret
    exact ⟨5, rfl, by omega, Ext.here _⟩
  · have e : s.toList.isEmpty = false := by rw [empty_nats, decide_eq_false hz]
    clear hz
    go_enter Tryz.func14, Tryz.ntmps14
    go_wp2_with (first | (go_at_call 31; (with_reducible refine H1.out.mono ?_); rintro e w1 ⟨t, rfl, ht, y, rfl⟩) | (go_at_call 13; (with_reducible refine (groups_any t _ (by omega)).mono ?_); rintro e w1 ⟨n, tg, g, b, rfl, _, z, rfl⟩))
    · go_ret
      exact ⟨4, rfl, by omega, Ext.both y z⟩
    · go_ret
      exact ⟨1, rfl, by omega, Ext.both y z⟩

/-- How many bytes a known algorithm's sum has. -/
def dsize (l : List Nat) : Nat := if l = [115, 104, 97, 50, 53, 54] then 32 else if l = [115, 104, 97, 51, 56, 52] then 48 else if l = [115, 104, 97, 53, 49, 50] then 64 else 0

set_option maxRecDepth 100000 in
theorem dsize_any (s : ByteArray) (w : World) : Calls Tryz.prog 34 #[.string s] w fun e w' => e = .returned (.int .i64 (dsize (nats s) : Nat)) ∧ w' = w := by
  unfold dsize
  by_cases h1 : nats s = [115, 104, 97, 50, 53, 54]
  · have e1 := is_text s [115, 104, 97, 50, 53, 54] h1
    rw [if_pos h1]
    clear h1
    go_enter Tryz.func34, Tryz.ntmps34
    go_wp2
    go_ret
    exact ⟨rfl, rfl⟩
  have e1 := not_text s [115, 104, 97, 50, 53, 54] h1
  rw [if_neg h1]
  clear h1
  by_cases h2 : nats s = [115, 104, 97, 51, 56, 52]
  · have e2 := is_text s [115, 104, 97, 51, 56, 52] h2
    rw [if_pos h2]
    clear h2
    go_enter Tryz.func34, Tryz.ntmps34
    go_wp2
    go_ret
    exact ⟨rfl, rfl⟩
  have e2 := not_text s [115, 104, 97, 51, 56, 52] h2
  rw [if_neg h2]
  clear h2
  by_cases h3 : nats s = [115, 104, 97, 53, 49, 50]
  · have e3 := is_text s [115, 104, 97, 53, 49, 50] h3
    rw [if_pos h3]
    clear h3
    go_enter Tryz.func34, Tryz.ntmps34
    go_wp2
    go_ret
    exact ⟨rfl, rfl⟩
  have e3 := not_text s [115, 104, 97, 53, 49, 50] h3
  rw [if_neg h3]
  clear h3
  go_enter Tryz.func34, Tryz.ntmps34
  go_wp2
  go_ret
  exact ⟨rfl, rfl⟩

set_option maxRecDepth 100000 in
theorem fits_dig (a h : ByteArray) (w : World) (hs : h.size < 100000000000) :
    Calls Tryz.prog 36 #[.string a, .string h] w fun e w' => ∃ n : Int, e = .returned (.int .i64 n) ∧ (n = 0 → dsize (nats a) ≠ 0 ∧ h.size = 2 * dsize (nats a) ∧ allF shx (nats h) = true) ∧ ∃ y : Ext w, w' = y.now := by
  have H1 := Lib.hid (dsize_any a w)
  obtain ⟨b, hb⟩ : ∃ b, b = allF shx (nats h) := ⟨_, rfl⟩
  have h2 := all_any enters_shx kind_shx h w hs
  rw [← hb] at h2 ⊢
  have H2 := Lib.hid h2
  have hd : dsize (nats a) ≤ 64 := by
    unfold dsize
    split
    · omega
    · split
      · omega
      · split <;> omega
  obtain ⟨d, hdd⟩ : ∃ d, d = dsize (nats a) := ⟨_, rfl⟩
  rw [← hdd] at H1 hd ⊢
  clear h2 hdd hb
  by_cases hz : d = 0
  · subst hz
    go_enter Tryz.func36, Tryz.ntmps36
    go_wp2_with (first | (go_at_call 34; (with_reducible refine H1.out.mono ?_); rintro e w1 ⟨rfl, rfl⟩))
    go_ret
    exact ⟨8, rfl, fun h => by omega, Ext.here _⟩
  · have hz' : ((d : Int) == 0) = false := beq_eq_false_iff_ne.2 (by omega)
    by_cases hl : h.size = 2 * d
    · have hl' : ((h.size : Int) != 2 * (d : Int)) = false := by simp [bne]; omega
      have hl2 : (h.size : Int) = 2 * (d : Int) := by omega
      cases b with
      | true =>
        go_enter Tryz.func36, Tryz.ntmps36
        go_wp2_with (first | (go_at_call 34; (with_reducible refine H1.out.mono ?_); rintro e w1 ⟨rfl, rfl⟩) | (go_at_call 42; (with_reducible refine H2.out.mono ?_); rintro e w1 ⟨rfl, y, rfl⟩))
        go_ret
        exact ⟨0, rfl, fun _ => ⟨hz, hl, trivial⟩, y, rfl⟩
      | false =>
        go_enter Tryz.func36, Tryz.ntmps36
        go_wp2_with (first | (go_at_call 34; (with_reducible refine H1.out.mono ?_); rintro e w1 ⟨rfl, rfl⟩) | (go_at_call 42; (with_reducible refine H2.out.mono ?_); rintro e w1 ⟨rfl, y, rfl⟩))
        go_ret
        exact ⟨3, rfl, fun h => by omega, y, rfl⟩
    · have hl2 : ¬ (h.size : Int) = 2 * (d : Int) := by omega
      go_enter Tryz.func36, Tryz.ntmps36
      go_wp2_with (first | (go_at_call 34; (with_reducible refine H1.out.mono ?_); rintro e w1 ⟨rfl, rfl⟩))
      go_ret
      exact ⟨9, rfl, fun h => by omega, Ext.here _⟩

set_option maxRecDepth 100000 in
set_option maxHeartbeats 2000000 in
/-- DigestForm: what it tells is not looked at. -/
theorem form_any (s : ByteArray) (w : World) (hs : s.size < 100000000000) :
    Calls Tryz.prog 35 #[.string s] w fun e w' => ∃ b : Bool, e = .returned (.bool b) ∧ ∃ y : Ext w, w' = y.now := by
  have h1 := Lib.hid (first_lit s 58 58 rfl w hs)
  rcases firstF_split 58 (nats s) with ⟨hneg, hno⟩ | ⟨a, b, hr, hno, hlen⟩
  · rw [hneg] at h1
    clear hno hneg
    go_enter Tryz.func35, Tryz.ntmps35
    go_wp2_with (first | (go_at_call 27; (with_reducible refine h1.out.mono ?_); rintro e w1 ⟨rfl, rfl⟩))
    go_ret
    exact ⟨false, rfl, Ext.here _⟩
  · have hl := nats_length s
    rw [hlen] at h1
    have hal : a.length < s.size := by
      rw [hr] at hl
      simp at hl
      omega
    have q0 : decide (((a.length : Nat) : Int) < 0) = false := decide_eq_false (by omega)
    have q2 : ((a.length : Nat) : Int) ≤ (s.size : Int) := by omega
    have q3 : ((a.length : Nat) : Int) + 1 ≤ (s.size : Int) := by omega
    have q4 : (0 : Int) ≤ ((a.length : Nat) : Int) + 1 := by omega
    have q5 : (((a.length : Nat) : Int) + 1).toNat = a.length + 1 := by omega
    have c2 := fun W : World => all_any enters_dfx kind_dfx (s.extract (a.length + 1) s.size) W (by rw [ByteArray.size_extract]; omega)
    obtain ⟨b2, hb2⟩ : ∃ b2, b2 = allF dfx (nats (s.extract (a.length + 1) s.size)) := ⟨_, rfl⟩
    rw [← hb2] at c2
    have C2 := Lib.hid c2
    clear hno hlen hr hl hb2 c2
    cases b2 with
    | false =>
      go_enter Tryz.func35, Tryz.ntmps35
      go_wp2_with (first | (go_at_call 27; (with_reducible refine h1.out.mono ?_); rintro e w1 ⟨rfl, rfl⟩) | (go_at_call 42; (with_reducible refine (C2.out _).mono ?_); rintro e w1 ⟨rfl, y, rfl⟩))
      go_ret
      exact ⟨false, rfl, y, rfl⟩
    | true =>
      go_enter Tryz.func35, Tryz.ntmps35
      go_wp2_with (first | (go_at_call 27; (with_reducible refine h1.out.mono ?_); rintro e w1 ⟨rfl, rfl⟩) | (go_at_call 42; (with_reducible refine (C2.out _).mono ?_); rintro e w1 ⟨rfl, y, rfl⟩))
      go_loopw [4, 5] (fun t3 t4 wr => ∃ (q : Bool) (k : Nat), t3 = .bool q ∧ t4 = .int .i64 k ∧ k ≤ a.length ∧ ∃ x : Ext w1, wr = x.now) (fun _ t _ => a.length - (intOf t).toNat)
      case atStart => exact ⟨true, 0, rfl, rfl, Nat.zero_le _, y, rfl⟩
      case round =>
        obtain ⟨q, k, rfl, rfl, hks, x, rfl⟩ := hrel
        by_cases hlt : k < a.length
        · have hlt' : (k : Int) < ((a.length : Nat) : Int) := by omega
          have h0 : (0 : Int) ≤ (k : Int) := by omega
          have hks2 : k < s.size := by omega
          have hks' : (k : Int) < (s.size : Int) := by omega
          obtain ⟨c, hc⟩ : ∃ c, c = (s[k]'hks2).toNat := ⟨_, rfl⟩
          have hcu : (((s[k]'hks2).toNat : Nat) : Int) = (c : Int) := by rw [hc]
          have c3 := fun W : World => kind_lower c W
          obtain ⟨p, hp⟩ : ∃ p, p = low c := ⟨_, rfl⟩
          rw [← hp] at c3
          have C3 := Lib.hid c3
          clear c3 hp hc
          cases p with
          | true =>
            go_wp2_with (first | (go_at_call 52; (with_reducible refine (C3.out _).mono ?_); rintro e w2 ⟨rfl, z, rfl⟩))
            exact ⟨⟨false, k + 1, rfl, by simp, by omega, Ext.both x z⟩, by simp [intOf]; omega⟩
          | false =>
            cases q with
            | true =>
              go_wp2_with (first | (go_at_call 52; (with_reducible refine (C3.out _).mono ?_); rintro e w2 ⟨rfl, z, rfl⟩))
              go_ret
              exact ⟨false, rfl, Ext.both x z⟩
            | false =>
              by_cases e1 : ((c : Int) != 43) = true
              · by_cases e2 : ((c : Int) != 46) = true
                · by_cases e3 : ((c : Int) != 45) = true
                  · by_cases e4 : ((c : Int) != 95) = true
                    · go_wp2_with (first | (go_at_call 52; (with_reducible refine (C3.out _).mono ?_); rintro e w2 ⟨rfl, z, rfl⟩))
                      go_ret
                      exact ⟨false, rfl, Ext.both x z⟩
                    · have e4' : ((c : Int) != 95) = false := by simpa using e4
                      clear e4
                      go_wp2_with (first | (go_at_call 52; (with_reducible refine (C3.out _).mono ?_); rintro e w2 ⟨rfl, z, rfl⟩))
                      exact ⟨⟨true, k + 1, rfl, by simp, by omega, Ext.both x z⟩, by simp [intOf]; omega⟩
                  · have e3' : ((c : Int) != 45) = false := by simpa using e3
                    clear e3
                    go_wp2_with (first | (go_at_call 52; (with_reducible refine (C3.out _).mono ?_); rintro e w2 ⟨rfl, z, rfl⟩))
                    exact ⟨⟨true, k + 1, rfl, by simp, by omega, Ext.both x z⟩, by simp [intOf]; omega⟩
                · have e2' : ((c : Int) != 46) = false := by simpa using e2
                  clear e2
                  go_wp2_with (first | (go_at_call 52; (with_reducible refine (C3.out _).mono ?_); rintro e w2 ⟨rfl, z, rfl⟩))
                  exact ⟨⟨true, k + 1, rfl, by simp, by omega, Ext.both x z⟩, by simp [intOf]; omega⟩
              · have e1' : ((c : Int) != 43) = false := by simpa using e1
                clear e1
                go_wp2_with (first | (go_at_call 52; (with_reducible refine (C3.out _).mono ?_); rintro e w2 ⟨rfl, z, rfl⟩))
                exact ⟨⟨true, k + 1, rfl, by simp, by omega, Ext.both x z⟩, by simp [intOf]; omega⟩
        · have hkn : k = a.length := by omega
          subst hkn
          have hlt' : ¬ (((a.length : Nat) : Int) < ((a.length : Nat) : Int)) := by omega
          go_wp2_with fail
          go_ret
          refine ⟨?_, x, rfl⟩
          cases q
          · exact .inr rfl
          · exact .inl rfl

/-- A digest that the specification lets through. -/
structure DG (s : ByteArray) (k : Nat) : Prop where
  lt : k < s.size
  sep : nats s = (nats s).take k ++ 58 :: (nats s).drop (k + 1)
  no : 58 ∉ (nats s).take k
  alg : dsize ((nats s).take k) ≠ 0
  len : s.size = k + 1 + 2 * dsize ((nats s).take k)
  hex : allF shx ((nats s).drop (k + 1)) = true

set_option maxRecDepth 100000 in
set_option maxHeartbeats 2000000 in
/-- DigestCheck -/
theorem check_any (s : ByteArray) (w : World) (hs : s.size < 100000000000) :
    Calls Tryz.prog 16 #[.string s] w fun e w' => ∃ n : Int, e = .returned (.int .i64 n) ∧ (n = 0 → ∃ k, DG s k) ∧ ∃ y : Ext w, w' = y.now := by
  have h1 := Lib.hid (first_lit s 58 58 rfl w hs)
  have hl := nats_length s
  rcases firstF_split 58 (nats s) with ⟨hneg, hno⟩ | ⟨a, b, hr, hno, hlen⟩
  · rw [hneg] at h1
    clear hno hneg
    go_enter Tryz.func16, Tryz.ntmps16
    go_wp2_with (first | (go_at_call 27; (with_reducible refine h1.out.mono ?_); rintro e w1 ⟨rfl, rfl⟩))
    go_ret
    exact ⟨3, rfl, fun h => by omega, Ext.here _⟩
  · rw [hlen] at h1
    have hal : a.length < s.size := by
      rw [hr] at hl
      simp at hl
      omega
    obtain ⟨k, hk⟩ : ∃ k, k = a.length := ⟨_, rfl⟩
    rw [← hk] at h1 hal
    by_cases hk0 : k < 1
    · have q0 : (k : Int) < 1 := by omega
      clear hno hlen hr hl hk
      go_enter Tryz.func16, Tryz.ntmps16
      go_wp2_with (first | (go_at_call 27; (with_reducible refine h1.out.mono ?_); rintro e w1 ⟨rfl, rfl⟩))
      go_ret
      exact ⟨3, rfl, fun h => by omega, Ext.here _⟩
    · have q0 : decide ((k : Int) < 1) = false := decide_eq_false (by omega)
      have q7 : (0 : Int) ≤ (k : Int) := by omega
      by_cases hk1 : k + 1 = s.size
      · have q1 : (k : Int) + 1 = (s.size : Int) := by omega
        clear hno hlen hr hl hk
        go_enter Tryz.func16, Tryz.ntmps16
        go_wp2_with (first | (go_at_call 27; (with_reducible refine h1.out.mono ?_); rintro e w1 ⟨rfl, rfl⟩))
        go_ret
        exact ⟨3, rfl, fun h => by omega, Ext.here _⟩
      · have q1 : ((k : Int) + 1 == (s.size : Int)) = false := beq_eq_false_iff_ne.2 (by omega)
        have q2 : (k : Int) ≤ (s.size : Int) := by omega
        have q3 : (k : Int) + 1 ≤ (s.size : Int) := by omega
        have q4 : (0 : Int) ≤ (k : Int) + 1 := by omega
        have q5 : ((k : Int) + 1).toNat = k + 1 := by omega
        have q6 : IntKind.i64.wrap ((k : Int) + 1) = (k : Int) + 1 := by rw [Go.IntWalk.i64_left]; exact Go.IntWalk.wrap64_in _ (by omega)
        have ha : (nats s).take k = a := by rw [hr, hk]; simp
        have hb : (nats s).drop (k + 1) = b := by rw [hr, hk, List.append_cons, List.drop_append_of_le_length (by simp)]; simp
        have hz : (s.extract (k + 1) s.size).size = s.size - (k + 1) := by rw [ByteArray.size_extract]; omega
        have c1 := fun W : World => dsize_any (s.extract 0 k) W
        have c2 := fun W : World => form_any s W hs
        have c3 := fun W : World => fits_dig (s.extract 0 k) (s.extract (k + 1) s.size) W (by rw [hz]; omega)
        rw [nats_take] at c1
        rw [nats_take, nats_drop, hz] at c3
        have hfin : dsize ((nats s).take k) ≠ 0 ∧ s.size - (k + 1) = 2 * dsize ((nats s).take k) ∧ allF shx ((nats s).drop (k + 1)) = true → ∃ k, DG s k := by
          rintro ⟨g1, g2, g3⟩
          exact ⟨k, hal, by rw [ha, hb, hr], by rw [ha]; exact hno, g1, by omega, g3⟩
        obtain ⟨d, hd⟩ : ∃ d, d = dsize ((nats s).take k) := ⟨_, rfl⟩
        rw [← hd] at c1
        have C1 := Lib.hid c1
        have C2 := Lib.hid c2
        have C3 := Lib.hid c3
        have HF := Lib.hid hfin
        clear c1 c2 c3 hfin hno hlen hr hl hk ha hb hd hz
        by_cases hd0 : d = 0
        · have hd1 : ((d : Int) == 0) = true := by rw [hd0]; rfl
          clear hd0
          go_enter Tryz.func16, Tryz.ntmps16
          go_wp2_with (first | (go_at_call 27; (with_reducible refine h1.out.mono ?_); rintro e w1 ⟨rfl, rfl⟩) | (go_at_call 34; (with_reducible refine (C1.out _).mono ?_); rintro e w2 ⟨rfl, rfl⟩) | (go_at_call 35; (with_reducible refine (C2.out _).mono ?_); rintro e w3 ⟨bf, rfl, y, rfl⟩))
          · go_ret
            exact ⟨3, rfl, fun h => by omega, y, rfl⟩
          · go_region_with (go_at_call 36; (with_reducible refine (C3.out _).mono ?_); rintro e w3 ⟨n, rfl, hn, z, rfl⟩)
            go_simp
            go_wp2_with fail
            go_ret
            exact ⟨n, rfl, fun h => HF.out (hn h), Ext.both y ((Ext.drewn _).trans z)⟩
        · have hd1 : ((d : Int) == 0) = false := beq_eq_false_iff_ne.2 (by omega)
          clear hd0
          go_enter Tryz.func16, Tryz.ntmps16
          go_wp2_with (first | (go_at_call 27; (with_reducible refine h1.out.mono ?_); rintro e w1 ⟨rfl, rfl⟩) | (go_at_call 34; (with_reducible refine (C1.out _).mono ?_); rintro e w2 ⟨rfl, rfl⟩))
          go_region_with (go_at_call 36; (with_reducible refine (C3.out _).mono ?_); rintro e w3 ⟨n, rfl, hn, y, rfl⟩)
          go_simp
          go_wp2_with fail
          go_ret
          exact ⟨n, rfl, fun h => HF.out (hn h), Ext.both (Ext.drewn _) y⟩

end Go.Proofs.YtooggfopjaaejaaGreatDoor
namespace Go.Proofs.YtooggfopjaaejaaGreatDoor
open Go.RowKit Go.Rx
attribute [local go_sem] Ext.cell Ext.frozen Ext.lt Ext.lt_add Ext.cell2 Ext.frozen2

/-- The four parts of a text that the specification's grammar and its digest's check let through. -/
structure PG (s d p t g : ByteArray) : Prop where
  grp : ∃ n, RG s n t g ∧ NG n d p
  few : p.size ≤ 255
  dig : nats g ≠ [] → ∃ k, DG g k

theorem RG.size {s n t g : ByteArray} (h : RG s n t g) : n.size ≤ s.size ∧ g.size ≤ s.size := by
  have h1 := congrArg List.length h.text
  rw [nats_length, List.length_append, List.length_append, nats_length] at h1
  refine ⟨by omega, ?_⟩
  by_cases hg : nats g = []
  · rw [← nats_length g, hg]; simp
  · rw [opt_some hg] at h1
    simp [digPart] at h1
    rw [nats_length] at h1
    omega

theorem res_parse {W : World} {H : Nat} {d p t g : ByteArray} {n : Int} {tmps : Array Value} (h2 : tmps.getD 2 undef = .pointer (some ⟨H, 0, none⟩)) (h3 : tmps.getD 3 undef = .int .i64 n)
    (c0 : W.cell? ⟨H, 0, none⟩ = some (.string d)) (c1 : W.cell? ⟨H, 1, none⟩ = some (.string p)) (c2 : W.cell? ⟨H, 2, none⟩ = some (.string t)) (c3 : W.cell? ⟨H, 3, none⟩ = some (.string g)) :
    (results Tryz.f8 tmps).run Tryz.prog W = .ok (.tuple #[rv d p t g, .int .i64 n]) W := by
  have h2' : tmps[2]?.getD undef = .pointer (some ⟨H, 0, none⟩) := by rw [← h2]; simp
  have h3' : tmps[3]?.getD undef = .int .i64 n := by rw [← h3]; simp
  simp [results, Tryz.results8, go_sem, h2', h3', c0, c1, c2, c3, rv, loadCellsFrom, Addr.add]

theorem ret_parse {w : World} (X : Ext (w.alloc (Obj.cells #[Value.string ⟨#[]⟩, Value.string ⟨#[]⟩, Value.string ⟨#[]⟩, Value.string ⟨#[]⟩] 23))) (d p t g : ByteArray) (n : Int) (tmps : Array Value)
    (h2 : tmps.getD 2 undef = .pointer (some ⟨w.heap.size, 0, none⟩)) (h3 : tmps.getD 3 undef = .int .i64 n) :
    (results Tryz.f8 tmps).run Tryz.prog ((((X.now.setCell ⟨w.heap.size, 0, none⟩ (.string d)).setCell ⟨w.heap.size, 1, none⟩ (.string p)).setCell ⟨w.heap.size, 2, none⟩ (.string t)).setCell ⟨w.heap.size, 3, none⟩ (.string g)) = .ok (.tuple #[rv d p t g, .int .i64 n]) ((((X.now.setCell ⟨w.heap.size, 0, none⟩ (.string d)).setCell ⟨w.heap.size, 1, none⟩ (.string p)).setCell ⟨w.heap.size, 2, none⟩ (.string t)).setCell ⟨w.heap.size, 3, none⟩ (.string g)) ∧
      ∃ y : Ext w, ((((X.now.setCell ⟨w.heap.size, 0, none⟩ (.string d)).setCell ⟨w.heap.size, 1, none⟩ (.string p)).setCell ⟨w.heap.size, 2, none⟩ (.string t)).setCell ⟨w.heap.size, 3, none⟩ (.string g)) = y.now := by
  have b0 : Blk X.now w.heap.size [Value.string ⟨#[]⟩, Value.string ⟨#[]⟩, Value.string ⟨#[]⟩, Value.string ⟨#[]⟩] 23 := (Blk.new w [Value.string ⟨#[]⟩, Value.string ⟨#[]⟩, Value.string ⟨#[]⟩, Value.string ⟨#[]⟩] 23).chg (Chg.of_below X.below) (by simp)
  have b1 := (((b0.set 0 (.string d)).set 1 (.string p)).set 2 (.string t)).set 3 (.string g)
  have c1 : Chg [w.heap.size] w ((((X.now.setCell ⟨w.heap.size, 0, none⟩ (.string d)).setCell ⟨w.heap.size, 1, none⟩ (.string p)).setCell ⟨w.heap.size, 2, none⟩ (.string t)).setCell ⟨w.heap.size, 3, none⟩ (.string g)) :=
    (((((Chg.alloc w _).trans (Chg.of_below X.below)).trans (Chg.set _ w.heap.size 0 _)).trans (Chg.set _ w.heap.size 1 _)).trans ((Chg.set _ w.heap.size 2 _).trans (Chg.set _ w.heap.size 3 _))).mono (fun b h _ => by simpa using h)
  exact ⟨res_parse h2 h3 ((b1.cell 0).trans rfl) ((b1.cell 1).trans rfl) ((b1.cell 2).trans rfl) ((b1.cell 3).trans rfl), Ext.of (c1.below (Nat.le_refl _) (fun b hb => by simp at hb; omega))⟩

set_option maxRecDepth 100000 in
set_option maxHeartbeats 2000000 in
theorem parse_any (s : ByteArray) (w : World) (hs : s.size < 100000000000) :
    Calls Tryz.prog 8 #[.string s] w fun e w' => ∃ (d p t g : ByteArray) (n : Int), e = .returned (.tuple #[rv d p t g, .int .i64 n]) ∧ (n = 0 → PG s d p t g) ∧ ∃ y : Ext w, w' = y.now := by
  have HW := Lib.hid (fun W : World => wrong_any s W hs)
  have HG := Lib.hid (fun W : World => groups_any s W hs)
  go_enter Tryz.func8, Tryz.ntmps8
  go_wp2_with (first | (go_at_call 13; (with_reducible refine (HG.out _).mono ?_); rintro e w1 ⟨n, t, g, b, rfl, hrg, y, rfl⟩) | (go_at_call 14; (with_reducible refine (HW.out _).mono ?_); rintro e w2 ⟨m, rfl, hm, z, rfl⟩))
  · refine bodyPost_ret (ret_parse (y.trans z) ⟨#[]⟩ ⟨#[]⟩ ⟨#[]⟩ ⟨#[]⟩ m _ rfl rfl).1 rfl ⟨⟨#[]⟩, ⟨#[]⟩, ⟨#[]⟩, ⟨#[]⟩, m, rfl, ?_, (ret_parse (y.trans z) ⟨#[]⟩ ⟨#[]⟩ ⟨#[]⟩ ⟨#[]⟩ m #[undef, undef, .pointer (some ⟨w.heap.size, 0, none⟩), .int .i64 m] rfl rfl).2⟩
    exact fun h => absurd h hm
  · have hbt : b = true := by cases b with
      | true => rfl
      | false => simp_all
    subst hbt
    have hRG := hrg rfl
    have hns := hRG.size
    have HN := Lib.hid (fun W : World => groups_name n W (by omega))
    have HC := Lib.hid (fun W : World => check_any g W (by omega))
    have HRG := Lib.hid hRG
    clear hrg hRG
    go_wp2_with (first | (go_at_call 15; (with_reducible refine (HN.out _).mono ?_); rintro e w1 ⟨d, p, b2, rfl, hng, hnl, y2, rfl⟩) | (go_at_call 16; (with_reducible refine (HC.out _).mono ?_); rintro e w2 ⟨m, rfl, hm, z, rfl⟩))
    · refine bodyPost_ret (ret_parse (y.trans y2) ⟨#[]⟩ ⟨#[]⟩ ⟨#[]⟩ ⟨#[]⟩ 6 _ rfl rfl).1 rfl ⟨⟨#[]⟩, ⟨#[]⟩, ⟨#[]⟩, ⟨#[]⟩, 6, rfl, ?_, (ret_parse (y.trans y2) ⟨#[]⟩ ⟨#[]⟩ ⟨#[]⟩ ⟨#[]⟩ 6 #[undef, undef, .pointer (some ⟨w.heap.size, 0, none⟩), .int .i64 6] rfl rfl).2⟩
      exact fun h => by omega
    · rename_i hmz
      refine bodyPost_ret (ret_parse (y.trans (y2.trans z)) ⟨#[]⟩ ⟨#[]⟩ ⟨#[]⟩ ⟨#[]⟩ m _ rfl rfl).1 rfl ⟨⟨#[]⟩, ⟨#[]⟩, ⟨#[]⟩, ⟨#[]⟩, m, rfl, ?_, (ret_parse (y.trans (y2.trans z)) ⟨#[]⟩ ⟨#[]⟩ ⟨#[]⟩ ⟨#[]⟩ m #[undef, undef, .pointer (some ⟨w.heap.size, 0, none⟩), .int .i64 m] rfl rfl).2⟩
      exact fun h => by subst h; simp at hmz
    · rename_i hple hge hmz
      refine bodyPost_ret (ret_parse (y.trans (y2.trans z)) d p t g 0 _ rfl rfl).1 rfl ⟨d, p, t, g, 0, rfl, ?_, (ret_parse (y.trans (y2.trans z)) d p t g 0 #[undef, undef, .pointer (some ⟨w.heap.size, 0, none⟩), .int .i64 0] rfl rfl).2⟩
      exact fun _ => ⟨⟨n, HRG.out, hng (hnl HRG.out.name)⟩, by omega, fun _ => hm (by simpa using hmz)⟩
    · rename_i hple hge
      refine bodyPost_ret (ret_parse (y.trans y2) d p t g 0 _ rfl rfl).1 rfl ⟨d, p, t, g, 0, rfl, ?_, (ret_parse (y.trans y2) d p t g 0 #[undef, undef, .pointer (some ⟨w.heap.size, 0, none⟩), .int .i64 0] rfl rfl).2⟩
      exact fun _ => ⟨⟨n, HRG.out, hng (hnl HRG.out.name)⟩, by omega, fun h => absurd (by rw [empty_nats] at hge; simpa using hge) h⟩

end Go.Proofs.YtooggfopjaaejaaGreatDoor
namespace Go.Proofs.YtooggfopjaaejaaGreatDoor
open Go.RowKit Go.Rx
attribute [local go_sem] Ext.cell Ext.frozen Ext.lt Ext.lt_add Ext.cell2 Ext.frozen2

theorem ext_one (s : ByteArray) (i : Nat) (h : i < s.size) : nats (s.extract i (i + 1)) = [(nats s).getD i 0] := by
  have hl : i < (nats s).length := by rw [nats_length]; exact h
  rw [nats_extract, List.drop_take, Nat.add_sub_cancel_left, List.drop_eq_getElem_cons hl, List.getD_eq_getElem?_getD, List.getElem?_eq_getElem hl]
  rfl

theorem DG.at_ {g : ByteArray} {k : Nat} (h : DG g k) : (nats g).getD k 0 = 58 := by
  have hl : k < (nats g).length := by rw [nats_length]; exact h.lt
  have h1 : (nats g).getD k 0 = ((nats g).take k ++ 58 :: (nats g).drop (k + 1)).getD k 0 := by rw [← h.sep]
  rw [h1, List.getD_eq_getElem?_getD, List.getElem?_append_right (by rw [List.length_take]; omega), List.length_take]
  simp [Nat.min_eq_left (Nat.le_of_lt hl)]

theorem DG.before {g : ByteArray} {k : Nat} (h : DG g k) {i : Nat} (hi : i < k) : (nats g).getD i 0 ≠ 58 := by
  intro e
  have hl : i < (nats g).length := by rw [nats_length]; have := h.lt; omega
  refine h.no ?_
  rw [List.getD_eq_getElem?_getD, List.getElem?_eq_getElem hl] at e
  simp at e
  rw [← e]
  exact List.mem_take_iff_getElem.2 ⟨i, by omega, rfl⟩

set_option maxRecDepth 100000 in
/-- godigest.zzIndex -/
theorem dindex_any {g : ByteArray} {k : Nat} (h : DG g k) (w : World) (hs : g.size < 100000000000) :
    Calls Tryz.prog 63 #[.string g, .string ⟨#[58]⟩] w fun e w' => e = .returned (.int .i64 k) ∧ w' = w := by
  have hlt := h.lt
  have hat := h.at_
  have H := Lib.hid h
  clear h
  go_enter Tryz.func63, Tryz.ntmps63
  go_wp2_with fail
  go_loopw [5] (fun t wr => ∃ i : Nat, t = .int .i64 i ∧ i ≤ k ∧ wr = w) (fun t _ => k - (intOf t).toNat)
  case atStart => exact ⟨0, rfl, Nat.zero_le _, rfl⟩
  case round =>
    obtain ⟨i, rfl, hik, rfl⟩ := hrel
    have p0 : (0 : Int) ≤ (i : Int) := by omega
    have p1 : (i : Int) + 1 ≤ (g.size : Int) := by omega
    have p2 : (0 : Int) ≤ (i : Int) + 1 := by omega
    have p3 : ((i : Int) + 1).toNat = i + 1 := by omega
    have p4 : (i : Int) ≤ (i : Int) + 1 := by omega
    have he := lit_nats (g.extract i (i + 1)) [58]
    rw [ext_one g i (by omega)] at he
    by_cases hlt2 : i < k
    · have hq : ((g.extract i (i + 1)).toList == [(58 : UInt8)]) = false := by
        rw [he]
        exact decide_eq_false (fun e => by
          have : (nats g).getD i 0 = 58 := by simpa using e
          exact H.out.before hlt2 this)
      clear he hat
      go_wp2_with fail
      exact ⟨⟨i + 1, by simp, by omega, trivial⟩, by simp [intOf]; omega⟩
    · have hik2 : i = k := by omega
      subst hik2
      have hq : ((g.extract i (i + 1)).toList == [(58 : UInt8)]) = true := by
        rw [he, hat]
        rfl
      clear he hat
      go_wp2_with fail
      go_ret
      exact ⟨rfl, rfl⟩

set_option maxRecDepth 100000 in
/-- godigest.zzSize -/
theorem zsize_any (s : ByteArray) (w : World) : Calls Tryz.prog 84 #[.string s] w fun e w' => e = .returned (.tuple #[.int .i64 (dsize (nats s) : Nat), .bool (!decide (dsize (nats s) = 0))]) ∧ w' = w := by
  unfold dsize
  by_cases h1 : nats s = [115, 104, 97, 50, 53, 54]
  · have e1 := is_text s [115, 104, 97, 50, 53, 54] h1
    rw [if_pos h1]
    clear h1
    go_enter Tryz.func84, Tryz.ntmps84
    go_wp2
    go_ret2
    exact ⟨rfl, rfl⟩
  have e1 := not_text s [115, 104, 97, 50, 53, 54] h1
  rw [if_neg h1]
  clear h1
  by_cases h2 : nats s = [115, 104, 97, 51, 56, 52]
  · have e2 := is_text s [115, 104, 97, 51, 56, 52] h2
    rw [if_pos h2]
    clear h2
    go_enter Tryz.func84, Tryz.ntmps84
    go_wp2
    go_ret2
    exact ⟨rfl, rfl⟩
  have e2 := not_text s [115, 104, 97, 51, 56, 52] h2
  rw [if_neg h2]
  clear h2
  by_cases h3 : nats s = [115, 104, 97, 53, 49, 50]
  · have e3 := is_text s [115, 104, 97, 53, 49, 50] h3
    rw [if_pos h3]
    clear h3
    go_enter Tryz.func84, Tryz.ntmps84
    go_wp2
    go_ret2
    exact ⟨rfl, rfl⟩
  have e3 := not_text s [115, 104, 97, 53, 49, 50] h3
  rw [if_neg h3]
  clear h3
  go_enter Tryz.func84, Tryz.ntmps84
  go_wp2
  go_ret2
  exact ⟨rfl, rfl⟩

theorem available_any (s : ByteArray) (w : World) : Calls Tryz.prog 64 #[.string s] w fun e w' => e = .returned (.bool (!decide (dsize (nats s) = 0))) ∧ w' = w := by
  have H := Lib.hid (zsize_any s w)
  go_enter Tryz.func64, Tryz.ntmps64
  go_wp2_with (first | (go_at_call 84; (with_reducible refine H.out.mono ?_); rintro e w1 ⟨rfl, rfl⟩))
  go_ret
  exact ⟨rfl, rfl⟩

theorem algSize_any (s : ByteArray) (w : World) : Calls Tryz.prog 89 #[.string s] w fun e w' => e = .returned (.int .i64 (dsize (nats s) : Nat)) ∧ w' = w := by
  have H := Lib.hid (zsize_any s w)
  go_enter Tryz.func89, Tryz.ntmps89
  go_wp2_with (first | (go_at_call 84; (with_reducible refine H.out.mono ?_); rintro e w1 ⟨rfl, rfl⟩))
  go_ret
  exact ⟨rfl, rfl⟩

set_option maxRecDepth 100000 in
theorem encoded_any (s : ByteArray) (w : World) (hd : dsize (nats s) ≠ 0) : Calls Tryz.prog 88 #[.string s] w fun e w' => ∃ R O G rb, e = .returned (.tuple #[.pointer (some ⟨R, 0, none⟩), .bool true]) ∧ OnceAt w' R O G rb (2 * dsize (nats s)) ∧ ∃ y : Ext w, w' = y.now := by
  by_cases h1 : nats s = [115, 104, 97, 50, 53, 54]
  · have e1 := is_text s [115, 104, 97, 50, 53, 54] h1
    have hz : 2 * dsize (nats s) = 64 := by unfold dsize; rw [if_pos h1]
    rw [hz]
    clear h1 hz hd
    go_enter Tryz.func88, Tryz.ntmps88
    go_wp2_with (first | (go_at_call 99; (with_reducible refine (dg64_any _).mono ?_); rintro e w1 ⟨R, O, G, rb, rfl, ho, y, rfl⟩))
    go_ret2
    exact ⟨R, O, G, rb, rfl, ho, y, rfl⟩
  have e1 := not_text s [115, 104, 97, 50, 53, 54] h1
  by_cases h2 : nats s = [115, 104, 97, 51, 56, 52]
  · have e2 := is_text s [115, 104, 97, 51, 56, 52] h2
    have hz : 2 * dsize (nats s) = 96 := by unfold dsize; rw [if_neg h1, if_pos h2]
    rw [hz]
    clear h1 h2 hz hd
    go_enter Tryz.func88, Tryz.ntmps88
    go_wp2_with (first | (go_at_call 100; (with_reducible refine (dg96_any _).mono ?_); rintro e w1 ⟨R, O, G, rb, rfl, ho, y, rfl⟩))
    go_ret2
    exact ⟨R, O, G, rb, rfl, ho, y, rfl⟩
  have e2 := not_text s [115, 104, 97, 51, 56, 52] h2
  by_cases h3 : nats s = [115, 104, 97, 53, 49, 50]
  · have e3 := is_text s [115, 104, 97, 53, 49, 50] h3
    have hz : 2 * dsize (nats s) = 128 := by unfold dsize; rw [if_neg h1, if_neg h2, if_pos h3]
    rw [hz]
    clear h1 h2 h3 hz hd
    go_enter Tryz.func88, Tryz.ntmps88
    go_wp2_with (first | (go_at_call 101; (with_reducible refine (dg128_any _).mono ?_); rintro e w1 ⟨R, O, G, rb, rfl, ho, y, rfl⟩))
    go_ret2
    exact ⟨R, O, G, rb, rfl, ho, y, rfl⟩
  exact absurd (by unfold dsize; rw [if_neg h1, if_neg h2, if_neg h3]) hd

set_option maxRecDepth 100000 in
theorem avalid_any (a h : ByteArray) (w : World) (hd : dsize (nats a) ≠ 0) (hl : h.size = 2 * dsize (nats a)) (hx : HexAll h) :
    Calls Tryz.prog 67 #[.string a, .string h] w fun e w' => e = .returned .nilIface ∧ ∃ y : Ext w, w' = y.now := by
  have H1 := Lib.hid (encoded_any a w hd)
  have H2 := Lib.hid (fun W : World => algSize_any a W)
  have hd2 : dsize (nats a) ≤ 64 := by
    unfold dsize
    split
    · omega
    · split
      · omega
      · split <;> omega
  have hn : (((dsize (nats a) : Nat) : Int) * 2 != ((h.size : Nat) : Int)) = false := by simp [bne]; omega
  have hb : 2 * dsize (nats a) < 1000 ∧ 0 < 2 * dsize (nats a) := by omega
  have HB := Lib.hid hb
  have HL := Lib.hid hl
  have HX := Lib.hid hx
  clear hd hl hx hb
  go_enter Tryz.func67, Tryz.ntmps67
  go_wp2_with (first | (go_at_call 88; (with_reducible refine H1.out.mono ?_); rintro e w1 ⟨R, O, G, rb, rfl, ho, y, rfl⟩) | (go_at_call 89; (with_reducible refine (H2.out _).mono ?_); rintro e w2 ⟨rfl, rfl⟩) | (go_at_call 66; (with_reducible refine (once_match ho HL.out HX.out HB.out.1 HB.out.2).mono ?_); rintro e w3 ⟨rfl, z, rfl⟩))
  go_ret
  exact ⟨rfl, Ext.both y z⟩

set_option maxRecDepth 100000 in
set_option maxHeartbeats 2000000 in
theorem dvalid_any {g : ByteArray} {k : Nat} (h : DG g k) (hs : g.size < 100000000000) (w : World) :
    Calls Tryz.prog 40 #[.string g] w fun e w' => e = .returned .nilIface ∧ ∃ y : Ext w, w' = y.now := by
  have hlt := h.lt
  have hlen := h.len
  have H1 := Lib.hid (dindex_any h w hs)
  have c2 := fun W : World => available_any (g.extract 0 k) W
  have hx : HexAll (g.extract (k + 1) g.size) := by
    intro i hi
    have := h.hex
    unfold allF at this
    simp only [Bool.and_eq_true, List.all_eq_true] at this
    refine this.2 _ ?_
    rw [← nats_drop, ← nats_at _ i hi, List.getD_eq_getElem?_getD, List.getElem?_eq_getElem (by rw [nats_length]; exact hi)]
    exact List.getElem_mem _
  have hz : (g.extract (k + 1) g.size).size = g.size - (k + 1) := by rw [ByteArray.size_extract]; omega
  have hal := h.alg
  have c3 := fun W : World => avalid_any (g.extract 0 k) (g.extract (k + 1) g.size) W (by rw [nats_take]; exact hal) (by rw [nats_take, hz]; omega) hx
  rw [nats_take, decide_eq_false hal] at c2
  have hk0 : 0 < k := by
    rcases Nat.eq_zero_or_pos k with h0 | h0
    · subst h0
      exact absurd rfl hal
    · exact h0
  have hd2 : 0 < dsize ((nats g).take k) := by omega
  have C2 := Lib.hid c2
  have C3 := Lib.hid c3
  have q0 : decide ((k : Int) ≤ 0) = false := decide_eq_false (by omega)
  have q1 : ((k : Int) + 1 == (g.size : Int)) = false := beq_eq_false_iff_ne.2 (by omega)
  have q2 : (k : Int) ≤ (g.size : Int) := by omega
  have q3 : (k : Int) + 1 ≤ (g.size : Int) := by omega
  have q4 : (0 : Int) ≤ (k : Int) + 1 := by omega
  have q5 : ((k : Int) + 1).toNat = k + 1 := by omega
  have q6 : IntKind.i64.wrap ((k : Int) + 1) = (k : Int) + 1 := by rw [Go.IntWalk.i64_left]; exact Go.IntWalk.wrap64_in _ (by omega)
  have q7 : (0 : Int) ≤ (k : Int) := by omega
  clear h hlen c2 c3 hx hz hal hd2
  go_enter Tryz.func40, Tryz.ntmps40
  go_wp2_with (first | (go_at_call 63; (with_reducible refine H1.out.mono ?_); rintro e w1 ⟨rfl, rfl⟩))
  go_region_with fail
  go_simp
  go_wp2_with (first | (go_at_call 64; (with_reducible refine (C2.out _).mono ?_); rintro e w1 ⟨rfl, rfl⟩) | (go_at_call 67; (with_reducible refine (C3.out _).mono ?_); rintro e w1 ⟨rfl, y, rfl⟩))
  go_ret
  exact ⟨rfl, Ext.both (Ext.drewn _) y⟩

theorem dparse_any {g : ByteArray} {k : Nat} (h : DG g k) (hs : g.size < 100000000000) (w : World) :
    Calls Tryz.prog 24 #[.string g] w fun e w' => e = .returned (.tuple #[.string g, .nilIface]) ∧ ∃ y : Ext w, w' = y.now := by
  have H1 := Lib.hid (fun W : World => dvalid_any h hs W)
  clear h
  go_enter Tryz.func24, Tryz.ntmps24
  go_wp2_with (first | (go_at_call 40; (with_reducible refine (H1.out _).mono ?_); rintro e w1 ⟨rfl, y, rfl⟩))
  go_ret2
  exact ⟨rfl, y, rfl⟩

end Go.Proofs.YtooggfopjaaejaaGreatDoor
namespace Go.Proofs.YtooggfopjaaejaaGreatDoor
open Go.RowKit Go.Rx
attribute [local go_sem] Ext.cell Ext.frozen Ext.lt Ext.lt_add Ext.cell2 Ext.frozen2

theorem ref_refit : ReFit refList 8 refRanks 8 724 1 512 where
  fit := ref_fit
  top := ref_top
  one := ⟨(progOf refList 1).out, eq_of_instEq (by decide +kernel)⟩
  len := by rw [ref_len]; omega
  nc := by omega
  bs := by intro n hn; rw [ref_len]; omega
  mbs := by omega
  mp := by omega
  nq := by rw [ref_len]; omega

theorem name_refit : ReFit nameList 6 nameRanks 6 4443 0 128 where
  fit := name_fit
  top := name_top
  one := ⟨(progOf nameList 1).out, eq_of_instEq (by decide +kernel)⟩
  len := by rw [name_len]; omega
  nc := by omega
  bs := by intro n hn; rw [name_len]; omega
  mbs := by omega
  mp := by omega
  nq := by rw [name_len]; omega

theorem dom_lt {d : List Nat} (h : Domain d) : ∀ x ∈ d, x < 128 := fun x hx => by
  have := domain_chars h x hx
  unfold Dch at this
  omega

theorem path_lt {d : List Nat} (h : Path d) : ∀ x ∈ d, x < 128 := fun x hx => by
  have := path_chars h x hx
  unfold Pch at this
  omega

theorem nameL_lt {v : List Nat} (h : NameL v) : ∀ x ∈ v, x < 128 := by
  rcases (nameL_iff v).1 h with h | ⟨d, p, rfl, hd, hp⟩
  · exact path_lt h
  · intro x hx
    rcases List.mem_append.1 hx with hx | hx
    · exact dom_lt hd x hx
    · rcases List.mem_cons.1 hx with rfl | hx
      · omega
      · exact path_lt hp x hx

theorem one_lt {p : Nat → Bool} (hp : ∀ x, p x = true → x < 128) : ∀ v, Env.One p v → ∀ x ∈ v, x < 128 := by
  rintro v ⟨y, rfl, hy⟩ x hx
  simp at hx
  rw [hx]
  exact hp y hy

theorem aln_lt (x : Nat) (h : aln x = true) : x < 128 := by
  simp [aln, low, dig] at h
  omega

theorem hex_lt (x : Nat) (h : hex x = true) : x < 128 := by
  simp [hex, dig] at h
  omega

theorem dig_lt {v : List Nat} (h : Dig v) : ∀ x ∈ v, x < 128 := by
  have h1 : ∀ v, AlgW v → ∀ x ∈ v, x < 128 := fun v h => cat_chars (one_lt (fun x hx => aln_lt x (by simp [ltr] at hx; exact hx.1))) (fun v h => star_chars (one_lt aln_lt) h) h
  have h2 : ∀ v, Alg v → ∀ x ∈ v, x < 128 := fun v h => cat_chars h1 (fun v h => star_chars (fun v h => cat_chars (one_lt (fun x hx => by simp [asp, is] at hx; omega)) h1 h) h) h
  refine cat_chars h2 (fun v h => cat_chars (one_lt (fun x hx => by simp [is] at hx; omega)) (fun v h => cat_chars (fun v h x hx => hex_lt x (((times_iff _ _ _).1 h).2 x hx)) (fun v h x hx => hex_lt x (((plus_one _ _).1 h).2 x hx)) h) h) h

theorem plain_nats {s : ByteArray} (h : ∀ x ∈ nats s, x < 128) : Plain s := by
  intro i hi
  have h1 := nats_at s i hi
  rw [← h1]
  refine h _ ?_
  rw [List.getD_eq_getElem?_getD, List.getElem?_eq_getElem (by rw [nats_length]; exact hi)]
  exact List.getElem_mem _

theorem RG.lt {s n t g : ByteArray} (h : RG s n t g) : ∀ x ∈ nats s, x < 128 := by
  intro x hx
  rw [h.text] at hx
  rcases List.mem_append.1 hx with hx | hx
  · exact nameL_lt h.name x hx
  · rcases List.mem_append.1 hx with hx | hx
    · by_cases ht : nats t = []
      · unfold optN at hx; rw [if_pos ht] at hx; cases hx
      · rw [opt_some ht] at hx
        rcases List.mem_cons.1 hx with rfl | hx
        · omega
        · exact (tch_bounds (tag_chars (h.tag ht) x hx)).2.2.2
    · by_cases ht : nats g = []
      · unfold optN at hx; rw [if_pos ht] at hx; cases hx
      · rw [opt_some ht] at hx
        rcases List.mem_cons.1 hx with rfl | hx
        · omega
        · exact dig_lt (h.dig ht) x hx

theorem extract_is {s t : ByteArray} {a b : Nat} (h : ((nats s).take b).drop a = nats t) : s.extract a b = t := nats_inj (by rw [nats_extract, h])

theorem nats_empty {t : ByteArray} (h : nats t = []) : t = ByteArray.empty := nats_inj (by rw [h, nats_nil])

theorem RG.caps {s n t g : ByteArray} (h : RG s n t g) : (List.range 4).map (fun i => Value.string (subOf s (refCaps (nats n) (optN t) (optN g)) i)) = [.string s, .string n, .string t, .string g] ∧
    ∀ i, i ≤ 3 → (refCaps (nats n) (optN t) (optN g)).getD (2 * i) (-1) = -1 ∨ (0 ≤ (refCaps (nats n) (optN t) (optN g)).getD (2 * i) (-1) ∧ (refCaps (nats n) (optN t) (optN g)).getD (2 * i) (-1) ≤ (refCaps (nats n) (optN t) (optN g)).getD (2 * i + 1) 0 ∧ (refCaps (nats n) (optN t) (optN g)).getD (2 * i + 1) 0 ≤ s.size) := by
  have hx := h.text
  have hl : s.size = (nats n).length + (tagPart (optN t)).length + (digPart (optN g)).length := by
    rw [← nats_length s, hx, List.length_append, List.length_append]
    omega
  have e0 : subOf s (refCaps (nats n) (optN t) (optN g)) 0 = s := by
    have : subOf s (refCaps (nats n) (optN t) (optN g)) 0 = s.extract 0 s.size := by
      rw [hl]
      simp [subOf, refCaps]
      rfl
    rw [this]
    exact extract_is (by rw [List.drop_zero, ← nats_length, List.take_length])
  have e1 : subOf s (refCaps (nats n) (optN t) (optN g)) 1 = n := by
    have : subOf s (refCaps (nats n) (optN t) (optN g)) 1 = s.extract 0 (nats n).length := by
      simp [subOf, refCaps]
    rw [this]
    exact extract_is (by rw [List.drop_zero, hx]; simp)
  have e2 : subOf s (refCaps (nats n) (optN t) (optN g)) 2 = t := by
    by_cases ht : nats t = []
    · rw [nats_empty ht, opt_nil]
      simp [subOf, refCaps]
    · rw [opt_some ht] at hx ⊢
      have : subOf s (refCaps (nats n) (some (nats t)) (optN g)) 2 = s.extract ((nats n).length + 1) ((nats n).length + 1 + (nats t).length) := by
        simp [subOf, refCaps]
        rw [if_pos (by omega)]
        congr 1
      rw [this]
      refine extract_is ?_
      rw [hx, List.drop_take, show nats n ++ (tagPart (some (nats t)) ++ digPart (optN g)) = (nats n ++ [58]) ++ (nats t ++ digPart (optN g)) by simp [tagPart], List.drop_left' (by simp)]
      simp
  have e3 : subOf s (refCaps (nats n) (optN t) (optN g)) 3 = g := by
    by_cases ht : nats g = []
    · rw [nats_empty ht, opt_nil]
      simp [subOf, refCaps]
    · rw [opt_some ht] at hx hl ⊢
      have : subOf s (refCaps (nats n) (optN t) (some (nats g))) 3 = s.extract ((nats n).length + (tagPart (optN t)).length + 1) s.size := by
        rw [hl]
        simp [subOf, refCaps]
        rw [if_pos (by omega)]
        congr 1
      rw [this]
      refine extract_is ?_
      rw [← nats_length, List.take_length, hx, ← List.append_assoc, show (nats n).length + (tagPart (optN t)).length + 1 = (nats n ++ tagPart (optN t)).length + 1 by simp, List.drop_append]
      simp [digPart]
  refine ⟨?_, ?_⟩
  · show [Value.string (subOf s (refCaps (nats n) (optN t) (optN g)) 0), Value.string (subOf s (refCaps (nats n) (optN t) (optN g)) 1), Value.string (subOf s (refCaps (nats n) (optN t) (optN g)) 2), Value.string (subOf s (refCaps (nats n) (optN t) (optN g)) 3)] = _
    rw [e0, e1, e2, e3]
  · intro i hi
    rw [hl]
    cases ho : optN t with
    | none =>
      cases hg : optN g with
      | none =>
        match i, hi with
        | 0, _ => exact .inr (by simp [refCaps, tagPart, digPart])
        | 1, _ => exact .inr (by simp [refCaps, tagPart, digPart])
        | 2, _ => exact .inl rfl
        | 3, _ => exact .inl rfl
      | some x =>
        match i, hi with
        | 0, _ => exact .inr (by simp [refCaps, tagPart, digPart]; omega)
        | 1, _ => exact .inr (by simp [refCaps, tagPart, digPart]; omega)
        | 2, _ => exact .inl rfl
        | 3, _ => exact .inr (by simp [refCaps, tagPart, digPart]; omega)
    | some y =>
      cases hg : optN g with
      | none =>
        match i, hi with
        | 0, _ => exact .inr (by simp [refCaps, tagPart, digPart]; omega)
        | 1, _ => exact .inr (by simp [refCaps, tagPart, digPart]; omega)
        | 2, _ => exact .inr (by simp [refCaps, tagPart, digPart]; omega)
        | 3, _ => exact .inl rfl
      | some x =>
        match i, hi with
        | 0, _ => exact .inr (by simp [refCaps, tagPart, digPart]; omega)
        | 1, _ => exact .inr (by simp [refCaps, tagPart, digPart]; omega)
        | 2, _ => exact .inr (by simp [refCaps, tagPart, digPart]; omega)
        | 3, _ => exact .inr (by simp [refCaps, tagPart, digPart]; omega)

end Go.Proofs.YtooggfopjaaejaaGreatDoor
namespace Go.Proofs.YtooggfopjaaejaaGreatDoor
open Go.RowKit Go.Rx
attribute [local go_sem] Ext.cell Ext.frozen Ext.lt Ext.lt_add Ext.cell2 Ext.frozen2

theorem NG.lt {n d p : ByteArray} (h : NG n d p) : ∀ x ∈ nats n, x < 128 := nameL_lt h.name

theorem NG.caps {n d p : ByteArray} (h : NG n d p) : ∃ r, Env.res (envAt (progOf nameList) n (rankOf nameRanks) 6) 1 0 (cap0 6) = some r ∧
    (List.range 3).map (fun i => Value.string (subOf n r i)) = [.string n, .string d, .string p] ∧
    ∀ i, i ≤ 2 → r.getD (2 * i) (-1) = -1 ∨ (0 ≤ r.getD (2 * i) (-1) ∧ r.getD (2 * i) (-1) ≤ r.getD (2 * i + 1) 0 ∧ r.getD (2 * i + 1) 0 ≤ n.size) := by
  have hpl := plain_nats h.lt
  have hall : n.extract 0 n.size = n := extract_is (by rw [List.drop_zero, ← nats_length, List.take_length])
  rcases h with ⟨h1, h2, h3⟩ | ⟨rfl, rfl, h3, h4⟩
  · have hl : n.size = (nats d).length + 1 + (nats p).length := by
      rw [← nats_length n, h1]
      simp
      omega
    have hd : n.extract 0 (nats d).length = d := extract_is (by rw [List.drop_zero, h1]; simp)
    have hp : n.extract ((nats d).length + 1) n.size = p := by
      refine extract_is ?_
      rw [← nats_length, List.take_length, h1, show nats d ++ 47 :: nats p = (nats d ++ [47]) ++ nats p by simp, List.drop_left' (by simp)]
    refine ⟨_, name_res_dom (table_ok name_fit n hpl name_top) takes_at widths_at (over_at name_fit hpl name_top) (nats_plain hpl) (name_at n _ _) h1 h2 h3, ?_, ?_⟩
    · rw [nats_length]
      show [Value.string (subOf n _ 0), Value.string (subOf n _ 1), Value.string (subOf n _ 2)] = _
      have e0 : subOf n [0, (n.size : Int), 0, ((nats d).length : Int), ((nats d).length : Int) + 1, (n.size : Int)] 0 = n := by
        have : subOf n [0, (n.size : Int), 0, ((nats d).length : Int), ((nats d).length : Int) + 1, (n.size : Int)] 0 = n.extract 0 n.size := by simp [subOf]
        rw [this, hall]
      have e1 : subOf n [0, (n.size : Int), 0, ((nats d).length : Int), ((nats d).length : Int) + 1, (n.size : Int)] 1 = d := by
        have : subOf n [0, (n.size : Int), 0, ((nats d).length : Int), ((nats d).length : Int) + 1, (n.size : Int)] 1 = n.extract 0 (nats d).length := by simp [subOf]
        rw [this, hd]
      have e2 : subOf n [0, (n.size : Int), 0, ((nats d).length : Int), ((nats d).length : Int) + 1, (n.size : Int)] 2 = p := by
        have : subOf n [0, (n.size : Int), 0, ((nats d).length : Int), ((nats d).length : Int) + 1, (n.size : Int)] 2 = n.extract ((nats d).length + 1) n.size := by
          simp [subOf]
          omega
        rw [this, hp]
      rw [e0, e1, e2]
    · intro i hi
      rw [nats_length, hl]
      match i, hi with
      | 0, _ => exact .inr (by simp; omega)
      | 1, _ => exact .inr (by simp; omega)
      | 2, _ => exact .inr (by simp; omega)
  · refine ⟨_, name_res_path (table_ok name_fit p hpl name_top) takes_at widths_at (over_at name_fit hpl name_top) (nats_plain hpl) (name_at p _ _) h3 h4, ?_, ?_⟩
    · rw [nats_length]
      show [Value.string (subOf p _ 0), Value.string (subOf p _ 1), Value.string (subOf p _ 2)] = _
      have e0 : subOf p [0, (p.size : Int), -1, -1, 0, (p.size : Int)] 0 = p := by
        have : subOf p [0, (p.size : Int), -1, -1, 0, (p.size : Int)] 0 = p.extract 0 p.size := by simp [subOf]
        rw [this, hall]
      have e1 : subOf p [0, (p.size : Int), -1, -1, 0, (p.size : Int)] 1 = ByteArray.empty := by simp [subOf]
      have e2 : subOf p [0, (p.size : Int), -1, -1, 0, (p.size : Int)] 2 = p := by
        have : subOf p [0, (p.size : Int), -1, -1, 0, (p.size : Int)] 2 = p.extract 0 p.size := by simp [subOf]
        rw [this, hall]
      rw [e0, e1, e2]
    · intro i hi
      rw [nats_length]
      match i, hi with
      | 0, _ => exact .inr (by simp)
      | 1, _ => exact .inl rfl
      | 2, _ => exact .inr (by simp)

theorem nameL_ne {v : List Nat} (h : NameL v) : v ≠ [] := by
  intro e
  subst e
  rcases (nameL_iff _).1 h with h | ⟨d, p, h, _, _⟩
  · rw [path_iff] at h
    have := h [] (by simp [pieces])
    simp [compF] at this
  · simp at h

theorem size_pos {s : ByteArray} (h : nats s ≠ []) : 1 ≤ s.size := by
  rw [← nats_length]
  exact List.length_pos_iff.2 h

theorem opt_is {t : ByteArray} {x : List Nat} (h : optN t = some x) : nats t ≠ [] ∧ nats t = x := by
  unfold optN at h
  by_cases ht : nats t = []
  · rw [if_pos ht] at h; cases h
  · rw [if_neg ht] at h
    exact ⟨ht, by simpa using h⟩

/-- The reference's program at a text. -/
theorem ref_sub {s n t g : ByteArray} (h : RG s n t g) (hsz : s.size < 8000000000) {R PR I : Nat} (w : World) (re : ReAt w R PR I refList 724 1 8 3) (hG : w.cell? ⟨10, 1, none⟩ = some (.int .i64 512)) (hGl : 10 < w.heap.size) :
    Calls Tryz.prog 21 #[.pointer (some ⟨R, 0, none⟩), .string s] w fun e w' =>
      ∃ b, e = .returned (.slice (some ⟨b, 0, none⟩) 4 4) ∧ Blk w' b [.string s, .string n, .string t, .string g] 9 ∧ ∃ x : Ext w, w' = x.now := by
  have hpl := plain_nats h.lt
  have hr : Env.res (envAt (progOf refList) s (rankOf refRanks) 8) 1 0 (cap0 8) = some (refCaps (nats n) (optN t) (optN g)) :=
    ref_res (table_ok ref_fit s hpl ref_top) takes_at widths_at (over_at ref_fit hpl ref_top) (nats_plain hpl) (ref_at s _ _) h.text h.name
      (fun x hx => by obtain ⟨ht, rfl⟩ := opt_is hx; exact h.tag ht)
      (fun x hx => by obtain ⟨ht, rfl⟩ := opt_is hx; exact h.dig ht)
  obtain ⟨hc, hb⟩ := h.caps
  have hne : nats s ≠ [] := by
    rw [h.text]
    intro e
    exact nameL_ne h.name (List.append_eq_nil_iff.1 e).1
  have := submatch_any ref_refit w re hG hGl s hpl (size_pos hne) hsz _ hr rfl hb
  rw [hc] at this
  exact this

/-- The name's program at a name. -/
theorem name_sub {n d p : ByteArray} (h : NG n d p) (hsz : n.size < 8000000000) {R PR I : Nat} (w : World) (re : ReAt w R PR I nameList 4443 0 6 2) (hG : w.cell? ⟨10, 0, none⟩ = some (.int .i64 128)) (hGl : 10 < w.heap.size) :
    Calls Tryz.prog 21 #[.pointer (some ⟨R, 0, none⟩), .string n] w fun e w' =>
      ∃ b, e = .returned (.slice (some ⟨b, 0, none⟩) 3 3) ∧ Blk w' b [.string n, .string d, .string p] 9 ∧ ∃ x : Ext w, w' = x.now := by
  have hpl := plain_nats h.lt
  obtain ⟨r, hr, hc, hb⟩ := h.caps
  have := submatch_any name_refit w re hG hGl n hpl (size_pos (nameL_ne h.name)) hsz _ hr rfl hb
  rw [hc] at this
  exact this

end Go.Proofs.YtooggfopjaaejaaGreatDoor
namespace Go.Proofs.YtooggfopjaaejaaGreatDoor
open Go.RowKit Go.Rx
attribute [local go_sem] Ext.cell Ext.frozen Ext.lt Ext.lt_add Ext.cell2 Ext.frozen2

set_option maxRecDepth 1000000 in
set_option maxHeartbeats 4000000 in
theorem rparse_any {s d p t g n : ByteArray} (h : RG s n t g) (hn : NG n d p) (hp : p.size ≤ 255) (hg : nats g ≠ [] → ∃ k, DG g k) (hsz : s.size < 8000000000) (w : World)
    (hG0 : w.cell? ⟨10, 0, none⟩ = some (.int .i64 128)) (hG1 : w.cell? ⟨10, 1, none⟩ = some (.int .i64 512)) (hGl : 10 < w.heap.size) :
    Calls Tryz.prog 11 #[.string s] w fun e w' => e = .returned (.tuple #[refV d p t g, .nilIface]) ∧ ∃ y : Ext w, w' = y.now := by
  have hnz : n.size < 8000000000 := by have := h.size.1; omega
  have nil4 : ∀ (B : Nat) (W : World), (binOp BinOp.eql 44 (.slice (some ⟨B, 0, none⟩) 4 4) (.slice none 0 0)).run Tryz.prog W = .ok (.bool false) W := fun B W => by kernel_rfl
  have hgz : g.size < 100000000000 := by have := h.size.2; omega
  have hpne : p.toList.isEmpty = false := by
    rw [empty_nats]
    refine decide_eq_false fun e => ?_
    have hP : Path (nats p) := by
      rcases hn with ⟨_, _, h3⟩ | ⟨_, rfl, h3, _⟩ <;> exact h3
    rw [e, path_iff] at hP
    have := hP [] (by simp [pieces])
    simp [compF] at this
  obtain ⟨T, v, hTv⟩ : ∃ T v, refV d p t g = .iface T v := by
    unfold refV
    rw [if_neg (by rw [hpne]; simp)]
    split
    · split <;> exact ⟨_, _, rfl⟩
    · split <;> exact ⟨_, _, rfl⟩
  have hdz : d.size + p.size ≤ 10000000000 := by
    have h1 : d.size ≤ n.size := by
      rcases hn with ⟨h1, _, _⟩ | ⟨rfl, _, _, _⟩
      · have := congrArg List.length h1
        rw [nats_length, List.length_append, nats_length] at this
        omega
      · simp
    omega
  have hbest := fun W : World => best_any d p t g W hdz (fun h => by rw [hpne] at h; cases h) (fun h => by rw [hpne] at h; cases h)
  rw [hTv] at hbest ⊢
  have HBest := Lib.hid hbest
  clear hbest hTv hpne
  have H := Lib.hid h
  have HN := Lib.hid hn
  have HG := Lib.hid hg
  clear h hn hg
  go_enter Tryz.func11, Tryz.ntmps11
  go_wp2_with (first | (go_at_call 20; (with_reducible refine (ref_prog _).mono ?_); rintro e w1 ⟨R, PR, I, rfl, re, y1, rfl⟩) | (go_at_call 21; (with_reducible refine (ref_sub H.out hsz _ re ((y1.cell 10 1 hGl).trans hG1) (y1.lt 10 hGl)).mono ?_); rintro e w2 ⟨b1, rfl, hb1, y2, rfl⟩))
  obtain ⟨W0, hW0⟩ : ∃ W0, W0 = y2.now := ⟨_, rfl⟩
  obtain ⟨yw, hyw⟩ := Ext.both y1 y2
  have hWg0 : W0.cell? ⟨10, 0, none⟩ = some (.int .i64 128) := by rw [hW0, hyw]; exact (yw.cell 10 0 hGl).trans hG0
  have hWl : 10 < W0.heap.size := by rw [hW0, hyw]; exact yw.lt 10 hGl
  have hWe : ∃ z : Ext w, W0 = z.now := ⟨yw, hW0.trans hyw⟩
  rw [← hW0] at hb1 ⊢
  have c1 : W0.cell? ⟨b1, 1, none⟩ = some (.string n) := (hb1.cell 1).trans rfl
  have c2 : W0.cell? ⟨b1, 2, none⟩ = some (.string t) := (hb1.cell 2).trans rfl
  have c3 : W0.cell? ⟨b1, 3, none⟩ = some (.string g) := (hb1.cell 3).trans rfl
  have hbl := hb1.lt
  have HB1 := Lib.hid hb1
  clear hW0 hyw re hb1
  obtain ⟨W1, hW1⟩ : ∃ W1, W1 = W0.alloc (Obj.cells #[Value.string ⟨#[]⟩, Value.string ⟨#[]⟩] 50) := ⟨_, rfl⟩
  rw [← hW1]
  have k1 : Chg [] W0 W1 := by rw [hW1]; exact Chg.alloc _ _
  obtain ⟨A, hA⟩ : ∃ A, W0.heap.size = A := ⟨_, rfl⟩
  have bA : Blk W1 A [.string ⟨#[]⟩, .string ⟨#[]⟩] 50 := by rw [hW1, ← hA]; exact Blk.new W0 [.string ⟨#[]⟩, .string ⟨#[]⟩] 50
  rw [hA]
  have g0 : W1.drew.cell? ⟨10, 0, none⟩ = some (.int .i64 128) := (World.cell?_of_block (k1.block 10 hWl (by simp))).trans hWg0
  have gl : 10 < W1.drew.heap.size := Nat.lt_of_lt_of_le hWl k1.size
  have d1 : W1.drew.cell? ⟨b1, 1, none⟩ = some (.string n) := (World.cell?_of_block (k1.block b1 hbl (by simp))).trans c1
  have d1' : W1.cell? ⟨b1, 1, none⟩ = some (.string n) := d1
  have dl : b1 < W1.drew.heap.size := Nat.lt_of_lt_of_le hbl k1.size
  have BA := Lib.hid bA
  have K1 := Lib.hid k1
  clear hW1 bA k1 c1
  go_region_with (first | (go_at_call 23; (with_reducible refine (name_prog _).mono ?_); rintro e w3 ⟨R2, PR2, I2, rfl, re2, y3, rfl⟩; have e3 : y3.now.cell? ⟨b1, 1, none⟩ = some (.string n) := (y3.cell b1 1 dl).trans d1) | (go_at_call 21; (with_reducible refine (name_sub HN.out hnz _ re2 ((y3.cell 10 0 gl).trans g0) (y3.lt 10 gl)).mono ?_); rintro e w4 ⟨b2, rfl, hb2, y4, rfl⟩))
  all_goals
    go_simp
    obtain ⟨W2, hW2⟩ : ∃ W2, W2 = y4.now := ⟨_, rfl⟩
    rw [← hW2]
    rw [← hW2] at hb2
    have k2 : Chg [] W1.drew W2 := by rw [hW2]; exact ((Chg.of_below y3.below).trans (Chg.of_below y4.below)).mono (fun b hb _ => by simpa using hb)
    have bA2 : Blk W2 A [.string ⟨#[]⟩, .string ⟨#[]⟩] 50 := Blk.chg (w := W1.drew) BA.out k2 (by simp)
    have hbA : ¬ b1 = A := by omega
    have hb2A : ¬ b2 = A := by
      intro e
      subst e
      have := bA2.symm.trans hb2
      simp at this
    have l1 : W2.cell? ⟨b1, 2, none⟩ = some (.string t) := (World.cell?_of_block (k2.block b1 dl (by simp))).trans ((World.cell?_of_block (K1.out.block b1 hbl (by simp))).trans c2)
    have l2 : W2.cell? ⟨b1, 3, none⟩ = some (.string g) := (World.cell?_of_block (k2.block b1 dl (by simp))).trans ((World.cell?_of_block (K1.out.block b1 hbl (by simp))).trans c3)
    have l3 : W2.cell? ⟨b2, 1, none⟩ = some (.string d) := (hb2.cell 1).trans rfl
    have l4 : W2.cell? ⟨b2, 2, none⟩ = some (.string p) := (hb2.cell 2).trans rfl
    have l5 : W2.cell? ⟨A, 0, none⟩ = some (.string ⟨#[]⟩) := (bA2.cell 0).trans rfl
    have l6 : W2.cell? ⟨A, 1, none⟩ = some (.string ⟨#[]⟩) := (bA2.cell 1).trans rfl
    have f5 := bA2.free 0
    have f6 := bA2.free 1
    have lA := bA2.lt
    have lb1 : b1 < W2.heap.size := Nat.lt_of_lt_of_le dl k2.size
    have lb2 := hb2.lt
    have hp' : (p.size : Int) ≤ 255 := by omega
    have hp2 : ¬ (p.size : Int) > 255 := by omega
    have hp3 : ¬ (255 : Int) < (p.size : Int) := by omega
    have BA2 := Lib.hid bA2
    have K2 := Lib.hid k2
    clear hW2 bA2 k2 hb2 re2 e3
    go_wp2_with fail
    obtain ⟨W3, hW3⟩ : ∃ W3, W3 = (W2.setCell ⟨A, 0, none⟩ (.string d)).setCell ⟨A, 1, none⟩ (.string p) := ⟨_, rfl⟩
    rw [← hW3]
    have bA3 : Blk W3 A [.string d, .string p] 50 := by rw [hW3]; exact (BA2.out.set 0 _).set 1 _
    have k3 : Chg [A] W2 W3 := by rw [hW3]; exact ((Chg.set W2 A 0 _).trans (Chg.set _ A 1 _)).mono (fun b hb _ => by simpa using hb)
    have m1 : W3.cell? ⟨b1, 2, none⟩ = some (.string t) := (World.cell?_of_block (k3.block b1 lb1 (by simpa using hbA))).trans l1
    have m2 : W3.cell? ⟨b1, 3, none⟩ = some (.string g) := (World.cell?_of_block (k3.block b1 lb1 (by simpa using hbA))).trans l2
    have m3 : W3.cell? ⟨A, 0, none⟩ = some (.string d) := (bA3.cell 0).trans rfl
    have m4 : W3.cell? ⟨A, 1, none⟩ = some (.string p) := (bA3.cell 1).trans rfl
    have lA3 := bA3.lt
    have lb3 : b1 < W3.heap.size := Nat.lt_of_lt_of_le lb1 k3.size
    have hbD : ¬ b1 = W3.heap.size := by omega
    have hAD : ¬ A = W3.heap.size := by omega
    have K3 := Lib.hid k3
    have BA3 := Lib.hid bA3
    clear hW3 k3 bA3 l1 l2 l3 l4 l5 l6 f5 f6
    go_region_with fail
    all_goals go_simp
    all_goals
      obtain ⟨W4, hW4⟩ : ∃ W4, W4 = (W3.alloc (Obj.cells #[Value.iface 50 (Value.agg #[Value.string d, Value.string p]), Value.string t, Value.string ⟨#[]⟩] 55)).drew := ⟨_, rfl⟩
      rw [← hW4]
      obtain ⟨D, hD⟩ : ∃ D, W3.heap.size = D := ⟨_, rfl⟩
      have bD : Blk W4 D [.iface 50 (.agg #[.string d, .string p]), .string t, .string ⟨#[]⟩] 55 := by rw [hW4, ← hD]; exact (Blk.new W3 [.iface 50 (.agg #[.string d, .string p]), .string t, .string ⟨#[]⟩] 55).drew
      have k4 : Chg [] W3 W4 := by rw [hW4]; exact (Chg.alloc W3 _).trans (Chg.of_below (Below.refl _ _).drew)
      rw [hD] at hbD hAD ⊢
      have n2 : W4.cell? ⟨b1, 3, none⟩ = some (.string g) := (World.cell?_of_block (k4.block b1 lb3 (by simp))).trans m2
      have n3 : W4.cell? ⟨D, 0, none⟩ = some (.iface 50 (.agg #[.string d, .string p])) := (bD.cell 0).trans rfl
      have n4 : W4.cell? ⟨D, 1, none⟩ = some (.string t) := (bD.cell 1).trans rfl
      have n5 : W4.cell? ⟨D, 2, none⟩ = some (.string ⟨#[]⟩) := (bD.cell 2).trans rfl
      have f5 := bD.free 2
      have lD := bD.lt
      have lb4 : b1 < W4.heap.size := Nat.lt_of_lt_of_le lb3 k4.size
      have K4 := Lib.hid k4
      have BD := Lib.hid bD
      have hAw : w.heap.size ≤ A := by
        obtain ⟨z0, hz0⟩ := hWe
        rw [← hA, hz0]
        exact z0.le
      have hDw : w.heap.size ≤ D := by omega
      have hWx : ∃ z : Ext w, W4 = z.now := by
        have c := (((K1.out.trans (Chg.of_below (Below.refl _ _).drew)).trans K2.out).trans K3.out).trans k4
        obtain ⟨z0, hz0⟩ := hWe
        have hA2 : w.heap.size ≤ A := by rw [← hA, hz0]; exact z0.le
        have b0 : Below w.heap.size w W0 := by rw [hz0]; exact z0.below
        exact Ext.of (((Chg.of_below b0).trans c).below (Nat.le_refl _) (fun b hb => by simp at hb; omega))
      have HWX := Lib.hid hWx
      clear hW4 k4 bD m1 m2 m3 m4 hWx
      by_cases hge : nats g = []
      · have e1 : g.toList.isEmpty = true := by rw [empty_nats, decide_eq_true hge]
        have e2 := nats_empty hge
        have hb : ∀ W : World, Calls Tryz.prog 25 #[.agg #[.iface 50 (.agg #[.string d, .string p]), .string t, .string ⟨#[]⟩]] W fun e w' => e = .returned (.iface T v) ∧ ∃ x : Ext W, w' = x.now := fun W => by
          have := HBest.out W
          rw [show g = (⟨#[]⟩ : ByteArray) from e2] at this
          exact this
        have HB := Lib.hid hb
        clear hb e2 hge
        go_wp2_with (first | (go_at_call 25; (with_reducible refine (HB.out _).mono ?_); rintro e w5 ⟨rfl, y5, rfl⟩))
        go_ret2
        obtain ⟨z, hz⟩ := HWX.out
        subst hz
        exact ⟨rfl, Ext.both z y5⟩
      · have e1 : g.toList.isEmpty = false := by rw [empty_nats, decide_eq_false hge]
        obtain ⟨k, hk⟩ := HG.out hge
        have HDP := Lib.hid (fun W : World => dparse_any hk hgz W)
        clear hge hk
        go_wp2_with (first | (go_at_call 24; (with_reducible refine (HDP.out _).mono ?_); rintro e w5 ⟨rfl, y5, rfl⟩) | (go_at_call 25; (with_reducible refine (HBest.out _).mono ?_); rintro e w6 ⟨rfl, y6, rfl⟩))
        go_ret2
        obtain ⟨z, hz⟩ := HWX.out
        subst hz
        have c : Chg [D] w y6.now := ((Chg.of_below z.below).trans ((Chg.of_below y5.below).trans ((Chg.set _ D 2 _).trans (Chg.of_below y6.below)))).mono (fun b hb _ => by simpa using hb)
        exact ⟨rfl, Ext.of (c.below (Nat.le_refl _) (fun b hb => by simp at hb; omega))⟩

end Go.Proofs.YtooggfopjaaejaaGreatDoor
