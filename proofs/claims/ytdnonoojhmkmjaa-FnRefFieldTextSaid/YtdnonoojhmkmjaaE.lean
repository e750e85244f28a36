/-
The walk of the law on a field's text.
-/
import Derived.Test.YtdnonoojhmkmjaaD
namespace Go.Proofs.Ytdnonoojhmkmjaa
open Go.RowKit
attribute [local go_sem] Ext.cell Ext.frozen Ext.lt Ext.lt_add Ext.cell2 Ext.frozen2

theorem fieldText_any (d p t g : ByteArray) (w : World) (hs : d.size + p.size + t.size + g.size ≤ 65536) (hp : p.toList.isEmpty = true → d.toList.isEmpty = true) (hg : p.toList.isEmpty = true → g.toList.isEmpty = false) :
    Calls Try.prog 7 #[rv d p t g] w (Told w (specText d p t g)) := by
  have hr := fun W => ref_any d p t g W (by omega) hp hg
  unfold refV at hr
  unfold specText
  by_cases h1 : p.toList.isEmpty = true
  · simp only [h1, if_true] at hr ⊢
    exact fieldText_of d p t g w 50 37 (.string g) g hr fun W => marshal_any 50 37 (.string g) g W (fun W => by kernel_rfl) (fun W => by kernel_rfl) (fun W => drString_any g W)
  · simp only [h1, Bool.false_eq_true, if_false] at hr ⊢
    by_cases h2 : t.toList.isEmpty = true
    · simp only [h2, if_true] at hr ⊢
      by_cases h3 : g.toList.isEmpty = true
      · simp only [h3, if_true] at hr ⊢
        exact fieldText_of d p t g w 44 33 _ _ hr fun W => marshal_any 44 33 _ _ W (fun W => by kernel_rfl) (fun W => by kernel_rfl) (fun W => repoString_any d p W (by omega))
      · simp only [h3, Bool.false_eq_true, if_false] at hr ⊢
        rw [← ByteArray.append_assoc]
        exact fieldText_of d p t g w 52 38 _ _ hr fun W => marshal_any 52 38 _ _ W (fun W => by kernel_rfl) (fun W => by kernel_rfl) (fun W => crString_any d p g W (by omega))
    · simp only [h2, Bool.false_eq_true, if_false] at hr ⊢
      by_cases h3 : g.toList.isEmpty = true
      · simp only [h3, if_true] at hr ⊢
        rw [← ByteArray.append_assoc]
        exact fieldText_of d p t g w 54 39 _ _ hr fun W => marshal_any 54 39 _ _ W (fun W => by kernel_rfl) (fun W => by kernel_rfl) (fun W => trString_any d p t W (by omega))
      · simp only [h3, Bool.false_eq_true, if_false] at hr ⊢
        rw [← ByteArray.append_assoc, ← ByteArray.append_assoc]
        exact fieldText_of d p t g w 49 36 _ _ hr fun W => marshal_any 49 36 _ _ W (fun W => by kernel_rfl) (fun W => by kernel_rfl) (fun W => rfString_any d p t g W (by omega))

theorem law_unfit (d p t g : ByteArray) (w : World) (hf : fitsB d p t g = false) :
    Calls Try.prog 3 #[rv d p t g] w fun e w' => e = .returned (.bool true) ∧ ∃ x : Ext w, w' = x.now := by
  have h4 : ∀ W, Calls Try.prog 4 #[rv d p t g] W fun e w' => e = .returned (.bool false) ∧ ∃ x : Ext W, w' = x.now := fun W => by
    have := fits_any d p t g W
    rwa [hf] at this
  clear hf
  go_enter Try.func3, Try.ntmps3
  go_wp2_with (go_at_call 4; (with_reducible refine (h4 _).mono ?_); rintro e w' ⟨rfl, x, rfl⟩)
  go_ret
  exact ⟨rfl, Ext.via x⟩

theorem law_long (d p t g : ByteArray) (w : World) (hf : fitsB d p t g = true) (hsh : shortB d p t g = false) :
    Calls Try.prog 3 #[rv d p t g] w fun e w' => e = .returned (.bool true) ∧ ∃ x : Ext w, w' = x.now := by
  have h4 : ∀ W, Calls Try.prog 4 #[rv d p t g] W fun e w' => e = .returned (.bool true) ∧ ∃ x : Ext W, w' = x.now := fun W => by
    have := fits_any d p t g W
    rwa [hf] at this
  have h5 : ∀ W, Calls Try.prog 5 #[rv d p t g] W fun e w' => e = .returned (.bool false) ∧ ∃ x : Ext W, w' = x.now := fun W => by
    have := short_any d p t g W hf
    rwa [hsh] at this
  clear hf hsh
  go_enter Try.func3, Try.ntmps3
  go_wp2_with (first
    | (go_at_call 4; (with_reducible refine (h4 _).mono ?_); rintro e w' ⟨rfl, x, rfl⟩)
    | (go_at_call 5; (with_reducible refine (h5 _).mono ?_); rintro e w' ⟨rfl, y, rfl⟩))
  go_ret
  exact ⟨rfl, Ext.viab x y⟩

theorem law_mute (d p t g : ByteArray) (w : World) (hf : fitsB d p t g = true) (hsh : shortB d p t g = true) (ht : tellsN p t g = 0) :
    Calls Try.prog 3 #[rv d p t g] w fun e w' => e = .returned (.bool true) ∧ ∃ x : Ext w, w' = x.now := by
  have h4 : ∀ W, Calls Try.prog 4 #[rv d p t g] W fun e w' => e = .returned (.bool true) ∧ ∃ x : Ext W, w' = x.now := fun W => by
    have := fits_any d p t g W
    rwa [hf] at this
  have h5 : ∀ W, Calls Try.prog 5 #[rv d p t g] W fun e w' => e = .returned (.bool true) ∧ ∃ x : Ext W, w' = x.now := fun W => by
    have := short_any d p t g W hf
    rwa [hsh] at this
  have h6 : ∀ W, Calls Try.prog 6 #[rv d p t g] W fun e w' => e = .returned (.int .i64 0) ∧ ∃ x : Ext W, w' = x.now := fun W => by
    have := tells_any d p t g W
    rwa [ht] at this
  clear hf hsh ht
  go_enter Try.func3, Try.ntmps3
  go_wp2_with (first
    | (go_at_call 4; (with_reducible refine (h4 _).mono ?_); rintro e w' ⟨rfl, x, rfl⟩)
    | (go_at_call 5; (with_reducible refine (h5 _).mono ?_); rintro e w' ⟨rfl, y, rfl⟩)
    | (go_at_call 6; (with_reducible refine (h6 _).mono ?_); rintro e w' ⟨rfl, z, rfl⟩))
  go_ret
  exact ⟨rfl, Ext.viab x (y.trans z)⟩

theorem law_told (d p t g : ByteArray) (w : World) (n : Int) (hf : fitsB d p t g = true) (hsh : shortB d p t g = true) (ht : tellsN p t g = n) (hn : (n == 0) = false) :
    Calls Try.prog 3 #[rv d p t g] w fun e w' => e = .returned (.bool true) ∧ ∃ x : Ext w, w' = x.now := by
  have h4 : ∀ W, Calls Try.prog 4 #[rv d p t g] W fun e w' => e = .returned (.bool true) ∧ ∃ x : Ext W, w' = x.now := fun W => by
    have := fits_any d p t g W
    rwa [hf] at this
  have h5 : ∀ W, Calls Try.prog 5 #[rv d p t g] W fun e w' => e = .returned (.bool true) ∧ ∃ x : Ext W, w' = x.now := fun W => by
    have := short_any d p t g W hf
    rwa [hsh] at this
  have h6 : ∀ W, Calls Try.prog 6 #[rv d p t g] W fun e w' => e = .returned (.int .i64 n) ∧ ∃ x : Ext W, w' = x.now := fun W => by
    have := tells_any d p t g W
    rwa [ht] at this
  simp only [shortB, Bool.and_eq_true, decide_eq_true_eq, Bool.or_eq_true, Bool.not_eq_true'] at hsh
  have hp : p.toList.isEmpty = true → d.toList.isEmpty = true := fun h => by
    rcases hsh.2 with h' | h'
    · rw [h] at h'; cases h'
    · exact h'
  have hg : p.toList.isEmpty = true → g.toList.isEmpty = false := fun h => by
    cases h' : g.toList.isEmpty with
    | false => rfl
    | true =>
      unfold tellsN at ht
      rw [if_pos h, if_pos h'] at ht
      subst ht
      cases hn
  have h7 := fun W => fieldText_any d p t g W hsh.1 hp hg
  have h8 := fun W => specText_any d p t g W hsh.1
  clear hf hsh ht hp hg
  generalize specText d p t g = s at h7 h8
  go_enter Try.func3, Try.ntmps3
  go_wp2_with (first
    | (go_at_call 4; (with_reducible refine (h4 _).mono ?_); rintro e w' ⟨rfl, x, rfl⟩)
    | (go_at_call 5; (with_reducible refine (calls_ext (h5 _)).mono ?_); rintro e w' ⟨rfl, y, rfl⟩)
    | (go_at_call 6; (with_reducible refine (calls_ext (h6 _)).mono ?_); rintro e w' ⟨rfl, z, rfl⟩)
    | (go_at_call 7; (with_reducible refine (h7 _).mono ?_); rintro e w' ⟨b, cap, rfl, hb, u, rfl⟩))
  obtain ⟨v, hv⟩ : ∃ v : Ext (w.alloc (.cells #[.string d, .string p, .string t, .string g] 23)), u.now = v.now := ⟨z.trans u, rfl⟩
  rw [hv] at hb ⊢
  clear hv
  have hback : ∀ q : Ext v.now, (convert 26 9 (.slice (some ⟨b, 0, none⟩) s.size cap)).run Try.prog q.now = .ok (.string s) q.now := fun q => by
    have hl : s.size = s.data.toList.length := by simp
    have := run_convert_bytes_back (P := Try.prog) q.now 26 9 5 ⟨b, 0, none⟩ cap s.data.toList Try.underlying26 Try.underlying5 Try.underlying9 (fun j hj => by
      rw [show (Addr.add ⟨b, 0, none⟩ j) = ⟨b, j, none⟩ by unfold Addr.add; split <;> simp_all]; exact (hb.ext q).2 j hj)
    rw [← hl] at this
    exact this
  clear hb
  refine wp_region_ext (by kernel_rfl) (by kernel_rfl) ?_
  repeat (quiet_step (first
    | (go_at_call 8; with_reducible exact calls_ext (h8 _))))
  refine wpQuiet_nil ?_
  rintro w' ⟨q, rfl⟩
  go_wp2
  go_ret
  exact ⟨rfl, Ext.viab v q⟩

end Go.Proofs.Ytdnonoojhmkmjaa
