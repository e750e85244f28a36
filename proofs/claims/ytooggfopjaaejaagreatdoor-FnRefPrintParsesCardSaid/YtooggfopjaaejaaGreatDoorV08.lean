/-
FnRefPrintParses: the regular expressions, the digest and the reference, part 8 of 25.
-/
import Derived.Test.YtooggfopjaaejaaGreatDoorV07
import Derived.Test.YtooggfopjaaejaaGreatDoorV04
set_option linter.all false
namespace Go.Proofs.YtooggfopjaaejaaGreatDoor
open Go.RowKit Go.Rx

set_option maxRecDepth 1000000 in
theorem enter_rune1_no_f {a : Act} (N R PR I np : Nat) (pg : Nat → Inst) (w : World) (hP : ProgAt w N R PR I np pg) (pc : Nat) (hp0 : 0 < pc) (hpc : pc < np) (B pos : Nat) (Q : Exit → Act → World → Prop)
    (r : Int) (wd : Nat) (hs : Calls Tryz.prog 160 #[.pointer (some ⟨B, 5, none⟩), .int .i64 pos] w fun e w' => e = .returned (.tuple #[.int .i32 r, .int .i64 wd]) ∧ w' = w) (_hwd : wd < 10) (_hpos : pos < 100000000000)
    (hop : (pg pc).op = 8) (x0 : Int) (hru : (pg pc).rune = [x0]) (hne : r ≠ x0) (hgo : ∀ a, Hed R B a → Q (.exit 1) a w)
    (hfr : Frm R B pc pos false a) : btTail.wp Tryz.prog Q a w := by
  have e := frm_lit hfr
  exact Eq.mpr (congrArg (fun x => btTail.wp Tryz.prog Q x w) e) (enter_rune1_no _ _ _ _ _ _ _ _ _ _ _ _ _ _ _ _ _ _ _ _ _ _ _ _ _ _ _ _ _ _ _ _ _ _ _ _ _ _ _ _ _ _ _ _ _ _ _ _ _ _ _ _ _ _ _ _ _ _ _ _ _ _ _ _ _ _ _ _ _ _ _ _ _ _ _ _ _ _ _ _ _ _ _ _ _ _ _ _ _ _ _ _ _ _ _ _ _ _ _ _ _ _ _ _ _ _ _ _ _ _ _ _ _ _ _ _ _ _ _ _ _ _ _ _ _ _ _ _ _ _ _ _ _ _ _ _ _ _ _ _ _ _ _ _ _ _ _ _ _ _ _ _ _ _ _ _ _ _ _ _ _ _ _ _ _ _ _ _ _ _ _ _ _ _ _ _ _ _ _ _ _ _ _ _ _ _ _ _ _ _ _ _ _ _ _ _ _ _ _ _ _ _ _ _ _ _ _ _ _ _ _ _ _ _ _ _ _ _ _ _ _ _ _ _ _ _ _ _ _ _ _ _ _ _ _ _ _ _ _ _ _ _ _ _ _ _ _ _ _ _ _ _ _ _ _ _ _ _ _ _ _ _ _ _ _ _ _ _ _ _ _ _ _ _ _ _ _ _ _ _ _ _ _ _ _ _ _ _ _ _ _ _ _ _ _ _ _ _ _ _ _ _ _ _ _ _ _ _ _ _ _ _ _ _ _ _ _ _ _ _ _ _ _ _ _ _ _ _ _ _ _ _ _ _ _ _ _ _ _ _ _ _ _ _ _ _ _ _ _ _ _ _ _ _ _ _ _ _ _ _ _ _ _ _ _ _ _ _ _ _ _ _ _ _ _ _ _ _ _ _ _ _ _ _ _ _ _ _ _ _ _ _ _ _ N R PR I np pg w hP pc hp0 hpc B pos Q r wd hs _hwd _hpos hop x0 hru hne hgo)

set_option maxRecDepth 1000000 in
theorem enter_rune1_yes_f {a : Act} (N R PR I np : Nat) (pg : Nat → Inst) (w : World) (hP : ProgAt w N R PR I np pg) (pc : Nat) (hp0 : 0 < pc) (hpc : pc < np) (B pos : Nat) (Q : Exit → Act → World → Prop)
    (r : Int) (wd : Nat) (hs : Calls Tryz.prog 160 #[.pointer (some ⟨B, 5, none⟩), .int .i64 pos] w fun e w' => e = .returned (.tuple #[.int .i32 r, .int .i64 wd]) ∧ w' = w) (_hwd : wd < 10) (_hpos : pos < 100000000000)
    (hop : (pg pc).op = 8) (x0 : Int) (hru : (pg pc).rune = [x0]) (hne : r = x0) (hgo : ∀ a, Frm R B (pg pc).out (pos + wd) false a → Q (.goto 1) a w)
    (hfr : Frm R B pc pos false a) : btTail.wp Tryz.prog Q a w := by
  have e := frm_lit hfr
  exact Eq.mpr (congrArg (fun x => btTail.wp Tryz.prog Q x w) e) (enter_rune1_yes _ _ _ _ _ _ _ _ _ _ _ _ _ _ _ _ _ _ _ _ _ _ _ _ _ _ _ _ _ _ _ _ _ _ _ _ _ _ _ _ _ _ _ _ _ _ _ _ _ _ _ _ _ _ _ _ _ _ _ _ _ _ _ _ _ _ _ _ _ _ _ _ _ _ _ _ _ _ _ _ _ _ _ _ _ _ _ _ _ _ _ _ _ _ _ _ _ _ _ _ _ _ _ _ _ _ _ _ _ _ _ _ _ _ _ _ _ _ _ _ _ _ _ _ _ _ _ _ _ _ _ _ _ _ _ _ _ _ _ _ _ _ _ _ _ _ _ _ _ _ _ _ _ _ _ _ _ _ _ _ _ _ _ _ _ _ _ _ _ _ _ _ _ _ _ _ _ _ _ _ _ _ _ _ _ _ _ _ _ _ _ _ _ _ _ _ _ _ _ _ _ _ _ _ _ _ _ _ _ _ _ _ _ _ _ _ _ _ _ _ _ _ _ _ _ _ _ _ _ _ _ _ _ _ _ _ _ _ _ _ _ _ _ _ _ _ _ _ _ _ _ _ _ _ _ _ _ _ _ _ _ _ _ _ _ _ _ _ _ _ _ _ _ _ _ _ _ _ _ _ _ _ _ _ _ _ _ _ _ _ _ _ _ _ _ _ _ _ _ _ _ _ _ _ _ _ _ _ _ _ _ _ _ _ _ _ _ _ _ _ _ _ _ _ _ _ _ _ _ _ _ _ _ _ _ _ _ _ _ _ _ _ _ _ _ _ _ _ _ _ _ _ _ _ _ _ _ _ _ _ _ _ _ _ _ _ _ _ _ _ _ _ _ _ _ _ _ _ _ _ _ _ _ _ _ _ _ _ _ _ _ _ _ _ N R PR I np pg w hP pc hp0 hpc B pos Q r wd hs _hwd _hpos hop x0 hru hne hgo)

set_option maxRecDepth 1000000 in
theorem enter_rune_no_f {a : Act} (N R PR I np : Nat) (pg : Nat → Inst) (w : World) (hP : ProgAt w N R PR I np pg) (pc : Nat) (hp0 : 0 < pc) (hpc : pc < np) (B pos : Nat) (Q : Exit → Act → World → Prop)
    (r : Int) (wd : Nat) (hs : Calls Tryz.prog 160 #[.pointer (some ⟨B, 5, none⟩), .int .i64 pos] w fun e w' => e = .returned (.tuple #[.int .i32 r, .int .i64 wd]) ∧ w' = w) (_hwd : wd < 10) (_hpos : pos < 100000000000)
    (hop : (pg pc).op = 7) (hcl : ClassLen (pg pc).rune.length) (htk : classTakes (pg pc).rune r = false) (hgo : ∀ a, Hed R B a → Q (.exit 1) a w)
    (hfr : Frm R B pc pos false a) : btTail.wp Tryz.prog Q a w := by
  have e := frm_lit hfr
  exact Eq.mpr (congrArg (fun x => btTail.wp Tryz.prog Q x w) e) (enter_rune_no _ _ _ _ _ _ _ _ _ _ _ _ _ _ _ _ _ _ _ _ _ _ _ _ _ _ _ _ _ _ _ _ _ _ _ _ _ _ _ _ _ _ _ _ _ _ _ _ _ _ _ _ _ _ _ _ _ _ _ _ _ _ _ _ _ _ _ _ _ _ _ _ _ _ _ _ _ _ _ _ _ _ _ _ _ _ _ _ _ _ _ _ _ _ _ _ _ _ _ _ _ _ _ _ _ _ _ _ _ _ _ _ _ _ _ _ _ _ _ _ _ _ _ _ _ _ _ _ _ _ _ _ _ _ _ _ _ _ _ _ _ _ _ _ _ _ _ _ _ _ _ _ _ _ _ _ _ _ _ _ _ _ _ _ _ _ _ _ _ _ _ _ _ _ _ _ _ _ _ _ _ _ _ _ _ _ _ _ _ _ _ _ _ _ _ _ _ _ _ _ _ _ _ _ _ _ _ _ _ _ _ _ _ _ _ _ _ _ _ _ _ _ _ _ _ _ _ _ _ _ _ _ _ _ _ _ _ _ _ _ _ _ _ _ _ _ _ _ _ _ _ _ _ _ _ _ _ _ _ _ _ _ _ _ _ _ _ _ _ _ _ _ _ _ _ _ _ _ _ _ _ _ _ _ _ _ _ _ _ _ _ _ _ _ _ _ _ _ _ _ _ _ _ _ _ _ _ _ _ _ _ _ _ _ _ _ _ _ _ _ _ _ _ _ _ _ _ _ _ _ _ _ _ _ _ _ _ _ _ _ _ _ _ _ _ _ _ _ _ _ _ _ _ _ _ _ _ _ _ _ _ _ _ _ _ _ _ _ _ _ _ _ _ _ _ _ _ _ _ _ _ _ _ _ _ _ _ _ _ _ _ _ _ _ N R PR I np pg w hP pc hp0 hpc B pos Q r wd hs _hwd _hpos hop hcl htk hgo)

set_option maxRecDepth 1000000 in
theorem enter_rune_yes_f {a : Act} (N R PR I np : Nat) (pg : Nat → Inst) (w : World) (hP : ProgAt w N R PR I np pg) (pc : Nat) (hp0 : 0 < pc) (hpc : pc < np) (B pos : Nat) (Q : Exit → Act → World → Prop)
    (r : Int) (wd : Nat) (hs : Calls Tryz.prog 160 #[.pointer (some ⟨B, 5, none⟩), .int .i64 pos] w fun e w' => e = .returned (.tuple #[.int .i32 r, .int .i64 wd]) ∧ w' = w) (_hwd : wd < 10) (_hpos : pos < 100000000000)
    (hop : (pg pc).op = 7) (hcl : ClassLen (pg pc).rune.length) (htk : classTakes (pg pc).rune r = true) (hgo : ∀ a, Frm R B (pg pc).out (pos + wd) false a → Q (.goto 1) a w)
    (hfr : Frm R B pc pos false a) : btTail.wp Tryz.prog Q a w := by
  have e := frm_lit hfr
  exact Eq.mpr (congrArg (fun x => btTail.wp Tryz.prog Q x w) e) (enter_rune_yes _ _ _ _ _ _ _ _ _ _ _ _ _ _ _ _ _ _ _ _ _ _ _ _ _ _ _ _ _ _ _ _ _ _ _ _ _ _ _ _ _ _ _ _ _ _ _ _ _ _ _ _ _ _ _ _ _ _ _ _ _ _ _ _ _ _ _ _ _ _ _ _ _ _ _ _ _ _ _ _ _ _ _ _ _ _ _ _ _ _ _ _ _ _ _ _ _ _ _ _ _ _ _ _ _ _ _ _ _ _ _ _ _ _ _ _ _ _ _ _ _ _ _ _ _ _ _ _ _ _ _ _ _ _ _ _ _ _ _ _ _ _ _ _ _ _ _ _ _ _ _ _ _ _ _ _ _ _ _ _ _ _ _ _ _ _ _ _ _ _ _ _ _ _ _ _ _ _ _ _ _ _ _ _ _ _ _ _ _ _ _ _ _ _ _ _ _ _ _ _ _ _ _ _ _ _ _ _ _ _ _ _ _ _ _ _ _ _ _ _ _ _ _ _ _ _ _ _ _ _ _ _ _ _ _ _ _ _ _ _ _ _ _ _ _ _ _ _ _ _ _ _ _ _ _ _ _ _ _ _ _ _ _ _ _ _ _ _ _ _ _ _ _ _ _ _ _ _ _ _ _ _ _ _ _ _ _ _ _ _ _ _ _ _ _ _ _ _ _ _ _ _ _ _ _ _ _ _ _ _ _ _ _ _ _ _ _ _ _ _ _ _ _ _ _ _ _ _ _ _ _ _ _ _ _ _ _ _ _ _ _ _ _ _ _ _ _ _ _ _ _ _ _ _ _ _ _ _ _ _ _ _ _ _ _ _ _ _ _ _ _ _ _ _ _ _ _ _ _ _ _ _ _ _ _ _ _ _ _ _ _ _ _ _ N R PR I np pg w hP pc hp0 hpc B pos Q r wd hs _hwd _hpos hop hcl htk hgo)

set_option maxRecDepth 1000000 in
theorem enter_nop_f {a : Act} (N R PR I np : Nat) (pg : Nat → Inst) (w : World) (hP : ProgAt w N R PR I np pg) (pc : Nat) (hp0 : 0 < pc) (hpc : pc < np) (B pos : Nat) (Q : Exit → Act → World → Prop)
    (hop : (pg pc).op = 6) (hgo : ∀ a, Frm R B (pg pc).out pos false a → Q (.goto 1) a w)
    (hfr : Frm R B pc pos false a) : btTail.wp Tryz.prog Q a w := by
  have e := frm_lit hfr
  exact Eq.mpr (congrArg (fun x => btTail.wp Tryz.prog Q x w) e) (enter_nop _ _ _ _ _ _ _ _ _ _ _ _ _ _ _ _ _ _ _ _ _ _ _ _ _ _ _ _ _ _ _ _ _ _ _ _ _ _ _ _ _ _ _ _ _ _ _ _ _ _ _ _ _ _ _ _ _ _ _ _ _ _ _ _ _ _ _ _ _ _ _ _ _ _ _ _ _ _ _ _ _ _ _ _ _ _ _ _ _ _ _ _ _ _ _ _ _ _ _ _ _ _ _ _ _ _ _ _ _ _ _ _ _ _ _ _ _ _ _ _ _ _ _ _ _ _ _ _ _ _ _ _ _ _ _ _ _ _ _ _ _ _ _ _ _ _ _ _ _ _ _ _ _ _ _ _ _ _ _ _ _ _ _ _ _ _ _ _ _ _ _ _ _ _ _ _ _ _ _ _ _ _ _ _ _ _ _ _ _ _ _ _ _ _ _ _ _ _ _ _ _ _ _ _ _ _ _ _ _ _ _ _ _ _ _ _ _ _ _ _ _ _ _ _ _ _ _ _ _ _ _ _ _ _ _ _ _ _ _ _ _ _ _ _ _ _ _ _ _ _ _ _ _ _ _ _ _ _ _ _ _ _ _ _ _ _ _ _ _ _ _ _ _ _ _ _ _ _ _ _ _ _ _ _ _ _ _ _ _ _ _ _ _ _ _ _ _ _ _ _ _ _ _ _ _ _ _ _ _ _ _ _ _ _ _ _ _ _ _ _ _ _ _ _ _ _ _ _ _ _ _ _ _ _ _ _ _ _ _ _ _ _ _ _ _ _ _ _ _ _ _ _ _ _ _ _ _ _ _ _ _ _ _ _ _ _ _ _ _ _ _ _ _ _ _ _ _ _ _ _ _ _ _ _ _ _ _ _ _ _ _ _ _ _ N R PR I np pg w hP pc hp0 hpc B pos Q hop hgo)

set_option maxRecDepth 1000000 in
theorem enter_empty4_true_f {a : Act} (N R PR I np : Nat) (pg : Nat → Inst) (w : World) (hP : ProgAt w N R PR I np pg) (pc : Nat) (hp0 : 0 < pc) (hpc : pc < np) (B pos : Nat) (Q : Exit → Act → World → Prop)
    (hop : (pg pc).op = 3) (har : (pg pc).arg = 4) (f : Int) (hctx : Calls Tryz.prog 157 #[.pointer (some ⟨B, 5, none⟩), .int .i64 pos] w fun e w' => e = .returned (.int .u64 f) ∧ w' = w)
    (hmt2 : Calls Tryz.prog 95 #[.int .u64 f, .int .u8 4] w fun e w' => e = .returned (.bool true) ∧ w' = w) (hgo : ∀ a, Frm R B (pg pc).out pos false a → Q (.goto 1) a w)
    (hfr : Frm R B pc pos false a) : btTail.wp Tryz.prog Q a w := by
  have e := frm_lit hfr
  exact Eq.mpr (congrArg (fun x => btTail.wp Tryz.prog Q x w) e) (enter_empty4_true _ _ _ _ _ _ _ _ _ _ _ _ _ _ _ _ _ _ _ _ _ _ _ _ _ _ _ _ _ _ _ _ _ _ _ _ _ _ _ _ _ _ _ _ _ _ _ _ _ _ _ _ _ _ _ _ _ _ _ _ _ _ _ _ _ _ _ _ _ _ _ _ _ _ _ _ _ _ _ _ _ _ _ _ _ _ _ _ _ _ _ _ _ _ _ _ _ _ _ _ _ _ _ _ _ _ _ _ _ _ _ _ _ _ _ _ _ _ _ _ _ _ _ _ _ _ _ _ _ _ _ _ _ _ _ _ _ _ _ _ _ _ _ _ _ _ _ _ _ _ _ _ _ _ _ _ _ _ _ _ _ _ _ _ _ _ _ _ _ _ _ _ _ _ _ _ _ _ _ _ _ _ _ _ _ _ _ _ _ _ _ _ _ _ _ _ _ _ _ _ _ _ _ _ _ _ _ _ _ _ _ _ _ _ _ _ _ _ _ _ _ _ _ _ _ _ _ _ _ _ _ _ _ _ _ _ _ _ _ _ _ _ _ _ _ _ _ _ _ _ _ _ _ _ _ _ _ _ _ _ _ _ _ _ _ _ _ _ _ _ _ _ _ _ _ _ _ _ _ _ _ _ _ _ _ _ _ _ _ _ _ _ _ _ _ _ _ _ _ _ _ _ _ _ _ _ _ _ _ _ _ _ _ _ _ _ _ _ _ _ _ _ _ _ _ _ _ _ _ _ _ _ _ _ _ _ _ _ _ _ _ _ _ _ _ _ _ _ _ _ _ _ _ _ _ _ _ _ _ _ _ _ _ _ _ _ _ _ _ _ _ _ _ _ _ _ _ _ _ _ _ _ _ _ _ _ _ _ _ _ _ _ _ _ N R PR I np pg w hP pc hp0 hpc B pos Q hop har f hctx hmt2 hgo)

set_option maxRecDepth 1000000 in
theorem enter_empty4_false_f {a : Act} (N R PR I np : Nat) (pg : Nat → Inst) (w : World) (hP : ProgAt w N R PR I np pg) (pc : Nat) (hp0 : 0 < pc) (hpc : pc < np) (B pos : Nat) (Q : Exit → Act → World → Prop)
    (hop : (pg pc).op = 3) (har : (pg pc).arg = 4) (f : Int) (hctx : Calls Tryz.prog 157 #[.pointer (some ⟨B, 5, none⟩), .int .i64 pos] w fun e w' => e = .returned (.int .u64 f) ∧ w' = w)
    (hmt2 : Calls Tryz.prog 95 #[.int .u64 f, .int .u8 4] w fun e w' => e = .returned (.bool false) ∧ w' = w) (hgo : ∀ a, Hed R B a → Q (.exit 1) a w)
    (hfr : Frm R B pc pos false a) : btTail.wp Tryz.prog Q a w := by
  have e := frm_lit hfr
  exact Eq.mpr (congrArg (fun x => btTail.wp Tryz.prog Q x w) e) (enter_empty4_false _ _ _ _ _ _ _ _ _ _ _ _ _ _ _ _ _ _ _ _ _ _ _ _ _ _ _ _ _ _ _ _ _ _ _ _ _ _ _ _ _ _ _ _ _ _ _ _ _ _ _ _ _ _ _ _ _ _ _ _ _ _ _ _ _ _ _ _ _ _ _ _ _ _ _ _ _ _ _ _ _ _ _ _ _ _ _ _ _ _ _ _ _ _ _ _ _ _ _ _ _ _ _ _ _ _ _ _ _ _ _ _ _ _ _ _ _ _ _ _ _ _ _ _ _ _ _ _ _ _ _ _ _ _ _ _ _ _ _ _ _ _ _ _ _ _ _ _ _ _ _ _ _ _ _ _ _ _ _ _ _ _ _ _ _ _ _ _ _ _ _ _ _ _ _ _ _ _ _ _ _ _ _ _ _ _ _ _ _ _ _ _ _ _ _ _ _ _ _ _ _ _ _ _ _ _ _ _ _ _ _ _ _ _ _ _ _ _ _ _ _ _ _ _ _ _ _ _ _ _ _ _ _ _ _ _ _ _ _ _ _ _ _ _ _ _ _ _ _ _ _ _ _ _ _ _ _ _ _ _ _ _ _ _ _ _ _ _ _ _ _ _ _ _ _ _ _ _ _ _ _ _ _ _ _ _ _ _ _ _ _ _ _ _ _ _ _ _ _ _ _ _ _ _ _ _ _ _ _ _ _ _ _ _ _ _ _ _ _ _ _ _ _ _ _ _ _ _ _ _ _ _ _ _ _ _ _ _ _ _ _ _ _ _ _ _ _ _ _ _ _ _ _ _ _ _ _ _ _ _ _ _ _ _ _ _ _ _ _ _ _ _ _ _ _ _ _ _ _ _ _ _ _ _ _ _ _ _ _ _ _ _ _ _ N R PR I np pg w hP pc hp0 hpc B pos Q hop har f hctx hmt2 hgo)

set_option maxRecDepth 1000000 in
theorem enter_empty8_true_f {a : Act} (N R PR I np : Nat) (pg : Nat → Inst) (w : World) (hP : ProgAt w N R PR I np pg) (pc : Nat) (hp0 : 0 < pc) (hpc : pc < np) (B pos : Nat) (Q : Exit → Act → World → Prop)
    (hop : (pg pc).op = 3) (har : (pg pc).arg = 8) (f : Int) (hctx : Calls Tryz.prog 157 #[.pointer (some ⟨B, 5, none⟩), .int .i64 pos] w fun e w' => e = .returned (.int .u64 f) ∧ w' = w)
    (hmt2 : Calls Tryz.prog 95 #[.int .u64 f, .int .u8 8] w fun e w' => e = .returned (.bool true) ∧ w' = w) (hgo : ∀ a, Frm R B (pg pc).out pos false a → Q (.goto 1) a w)
    (hfr : Frm R B pc pos false a) : btTail.wp Tryz.prog Q a w := by
  have e := frm_lit hfr
  exact Eq.mpr (congrArg (fun x => btTail.wp Tryz.prog Q x w) e) (enter_empty8_true _ _ _ _ _ _ _ _ _ _ _ _ _ _ _ _ _ _ _ _ _ _ _ _ _ _ _ _ _ _ _ _ _ _ _ _ _ _ _ _ _ _ _ _ _ _ _ _ _ _ _ _ _ _ _ _ _ _ _ _ _ _ _ _ _ _ _ _ _ _ _ _ _ _ _ _ _ _ _ _ _ _ _ _ _ _ _ _ _ _ _ _ _ _ _ _ _ _ _ _ _ _ _ _ _ _ _ _ _ _ _ _ _ _ _ _ _ _ _ _ _ _ _ _ _ _ _ _ _ _ _ _ _ _ _ _ _ _ _ _ _ _ _ _ _ _ _ _ _ _ _ _ _ _ _ _ _ _ _ _ _ _ _ _ _ _ _ _ _ _ _ _ _ _ _ _ _ _ _ _ _ _ _ _ _ _ _ _ _ _ _ _ _ _ _ _ _ _ _ _ _ _ _ _ _ _ _ _ _ _ _ _ _ _ _ _ _ _ _ _ _ _ _ _ _ _ _ _ _ _ _ _ _ _ _ _ _ _ _ _ _ _ _ _ _ _ _ _ _ _ _ _ _ _ _ _ _ _ _ _ _ _ _ _ _ _ _ _ _ _ _ _ _ _ _ _ _ _ _ _ _ _ _ _ _ _ _ _ _ _ _ _ _ _ _ _ _ _ _ _ _ _ _ _ _ _ _ _ _ _ _ _ _ _ _ _ _ _ _ _ _ _ _ _ _ _ _ _ _ _ _ _ _ _ _ _ _ _ _ _ _ _ _ _ _ _ _ _ _ _ _ _ _ _ _ _ _ _ _ _ _ _ _ _ _ _ _ _ _ _ _ _ _ _ _ _ _ _ _ _ _ _ _ _ _ _ _ _ _ _ _ _ _ _ N R PR I np pg w hP pc hp0 hpc B pos Q hop har f hctx hmt2 hgo)

set_option maxRecDepth 1000000 in
theorem enter_empty8_false_f {a : Act} (N R PR I np : Nat) (pg : Nat → Inst) (w : World) (hP : ProgAt w N R PR I np pg) (pc : Nat) (hp0 : 0 < pc) (hpc : pc < np) (B pos : Nat) (Q : Exit → Act → World → Prop)
    (hop : (pg pc).op = 3) (har : (pg pc).arg = 8) (f : Int) (hctx : Calls Tryz.prog 157 #[.pointer (some ⟨B, 5, none⟩), .int .i64 pos] w fun e w' => e = .returned (.int .u64 f) ∧ w' = w)
    (hmt2 : Calls Tryz.prog 95 #[.int .u64 f, .int .u8 8] w fun e w' => e = .returned (.bool false) ∧ w' = w) (hgo : ∀ a, Hed R B a → Q (.exit 1) a w)
    (hfr : Frm R B pc pos false a) : btTail.wp Tryz.prog Q a w := by
  have e := frm_lit hfr
  exact Eq.mpr (congrArg (fun x => btTail.wp Tryz.prog Q x w) e) (enter_empty8_false _ _ _ _ _ _ _ _ _ _ _ _ _ _ _ _ _ _ _ _ _ _ _ _ _ _ _ _ _ _ _ _ _ _ _ _ _ _ _ _ _ _ _ _ _ _ _ _ _ _ _ _ _ _ _ _ _ _ _ _ _ _ _ _ _ _ _ _ _ _ _ _ _ _ _ _ _ _ _ _ _ _ _ _ _ _ _ _ _ _ _ _ _ _ _ _ _ _ _ _ _ _ _ _ _ _ _ _ _ _ _ _ _ _ _ _ _ _ _ _ _ _ _ _ _ _ _ _ _ _ _ _ _ _ _ _ _ _ _ _ _ _ _ _ _ _ _ _ _ _ _ _ _ _ _ _ _ _ _ _ _ _ _ _ _ _ _ _ _ _ _ _ _ _ _ _ _ _ _ _ _ _ _ _ _ _ _ _ _ _ _ _ _ _ _ _ _ _ _ _ _ _ _ _ _ _ _ _ _ _ _ _ _ _ _ _ _ _ _ _ _ _ _ _ _ _ _ _ _ _ _ _ _ _ _ _ _ _ _ _ _ _ _ _ _ _ _ _ _ _ _ _ _ _ _ _ _ _ _ _ _ _ _ _ _ _ _ _ _ _ _ _ _ _ _ _ _ _ _ _ _ _ _ _ _ _ _ _ _ _ _ _ _ _ _ _ _ _ _ _ _ _ _ _ _ _ _ _ _ _ _ _ _ _ _ _ _ _ _ _ _ _ _ _ _ _ _ _ _ _ _ _ _ _ _ _ _ _ _ _ _ _ _ _ _ _ _ _ _ _ _ _ _ _ _ _ _ _ _ _ _ _ _ _ _ _ _ _ _ _ _ _ _ _ _ _ _ _ _ _ _ _ _ _ _ _ _ _ _ _ _ _ _ _ N R PR I np pg w hP pc hp0 hpc B pos Q hop har f hctx hmt2 hgo)

set_option maxRecDepth 1000000 in
theorem enter_alt_back_f {a : Act} (N R PR I np : Nat) (pg : Nat → Inst) (w : World) (hP : ProgAt w N R PR I np pg) (pc : Nat) (hp0 : 0 < pc) (hpc : pc < np) (B pos : Nat) (Q : Exit → Act → World → Prop)
    (hop : (pg pc).op = 0) (hgo : ∀ a, Frm R B (pg pc).arg pos false a → Q (.goto 1) a w)
    (hfr : Frm R B pc pos true a) : btTail.wp Tryz.prog Q a w := by
  have e := frm_lit hfr
  exact Eq.mpr (congrArg (fun x => btTail.wp Tryz.prog Q x w) e) (enter_alt_back _ _ _ _ _ _ _ _ _ _ _ _ _ _ _ _ _ _ _ _ _ _ _ _ _ _ _ _ _ _ _ _ _ _ _ _ _ _ _ _ _ _ _ _ _ _ _ _ _ _ _ _ _ _ _ _ _ _ _ _ _ _ _ _ _ _ _ _ _ _ _ _ _ _ _ _ _ _ _ _ _ _ _ _ _ _ _ _ _ _ _ _ _ _ _ _ _ _ _ _ _ _ _ _ _ _ _ _ _ _ _ _ _ _ _ _ _ _ _ _ _ _ _ _ _ _ _ _ _ _ _ _ _ _ _ _ _ _ _ _ _ _ _ _ _ _ _ _ _ _ _ _ _ _ _ _ _ _ _ _ _ _ _ _ _ _ _ _ _ _ _ _ _ _ _ _ _ _ _ _ _ _ _ _ _ _ _ _ _ _ _ _ _ _ _ _ _ _ _ _ _ _ _ _ _ _ _ _ _ _ _ _ _ _ _ _ _ _ _ _ _ _ _ _ _ _ _ _ _ _ _ _ _ _ _ _ _ _ _ _ _ _ _ _ _ _ _ _ _ _ _ _ _ _ _ _ _ _ _ _ _ _ _ _ _ _ _ _ _ _ _ _ _ _ _ _ _ _ _ _ _ _ _ _ _ _ _ _ _ _ _ _ _ _ _ _ _ _ _ _ _ _ _ _ _ _ _ _ _ _ _ _ _ _ _ _ _ _ _ _ _ _ _ _ _ _ _ _ _ _ _ _ _ _ _ _ _ _ _ _ _ _ _ _ _ _ _ _ _ _ _ _ _ _ _ _ _ _ _ _ _ _ _ _ _ _ _ _ _ _ _ _ _ _ _ _ _ _ _ _ _ _ _ _ _ _ _ _ _ _ _ _ _ _ N R PR I np pg w hP pc hp0 hpc B pos Q hop hgo)

set_option maxRecDepth 1000000 in
theorem enter_alt_f {a : Act} (N R PR I np : Nat) (pg : Nat → Inst) (w : World) (hP : ProgAt w N R PR I np pg) (pc : Nat) (hp0 : 0 < pc) (hpc : pc < np) (B pos : Nat) (Q : Exit → Act → World → Prop)
    (G : World → Prop) (hG : ∀ w', G w' → ProgAt w' N R PR I np pg) (hpush : Calls Tryz.prog 92 #[.pointer (some ⟨B, 0, none⟩), .pointer (some ⟨R, 0, none⟩), .int .u32 pc, .int .i64 pos, .bool true] w fun e w' => e = .returned (.tuple #[]) ∧ G w')
    (hop : (pg pc).op = 0) (hgo : ∀ a w', Frm R B (pg pc).out pos false a → G w' → Q (.goto 1) a w')
    (hfr : Frm R B pc pos false a) : btTail.wp Tryz.prog Q a w := by
  have e := frm_lit hfr
  exact Eq.mpr (congrArg (fun x => btTail.wp Tryz.prog Q x w) e) (enter_alt _ _ _ _ _ _ _ _ _ _ _ _ _ _ _ _ _ _ _ _ _ _ _ _ _ _ _ _ _ _ _ _ _ _ _ _ _ _ _ _ _ _ _ _ _ _ _ _ _ _ _ _ _ _ _ _ _ _ _ _ _ _ _ _ _ _ _ _ _ _ _ _ _ _ _ _ _ _ _ _ _ _ _ _ _ _ _ _ _ _ _ _ _ _ _ _ _ _ _ _ _ _ _ _ _ _ _ _ _ _ _ _ _ _ _ _ _ _ _ _ _ _ _ _ _ _ _ _ _ _ _ _ _ _ _ _ _ _ _ _ _ _ _ _ _ _ _ _ _ _ _ _ _ _ _ _ _ _ _ _ _ _ _ _ _ _ _ _ _ _ _ _ _ _ _ _ _ _ _ _ _ _ _ _ _ _ _ _ _ _ _ _ _ _ _ _ _ _ _ _ _ _ _ _ _ _ _ _ _ _ _ _ _ _ _ _ _ _ _ _ _ _ _ _ _ _ _ _ _ _ _ _ _ _ _ _ _ _ _ _ _ _ _ _ _ _ _ _ _ _ _ _ _ _ _ _ _ _ _ _ _ _ _ _ _ _ _ _ _ _ _ _ _ _ _ _ _ _ _ _ _ _ _ _ _ _ _ _ _ _ _ _ _ _ _ _ _ _ _ _ _ _ _ _ _ _ _ _ _ _ _ _ _ _ _ _ _ _ _ _ _ _ _ _ _ _ _ _ _ _ _ _ _ _ _ _ _ _ _ _ _ _ _ _ _ _ _ _ _ _ _ _ _ _ _ _ _ _ _ _ _ _ _ _ _ _ _ _ _ _ _ _ _ _ _ _ _ _ _ _ _ _ _ _ _ _ _ _ _ _ _ _ _ _ N R PR I np pg w hP pc hp0 hpc B pos Q G hG hpush hop hgo)

set_option maxRecDepth 1000000 in
theorem enter_cap_back_f {a : Act} (N R PR I np : Nat) (pg : Nat → Inst) (w : World) (hP : ProgAt w N R PR I np pg) (pc : Nat) (hp0 : 0 < pc) (hpc : pc < np) (B : Nat) (Q : Exit → Act → World → Prop)
    (hop : (pg pc).op = 2) (C nc : Nat) (v : Int) (hK : (pg pc).arg < nc) (_hnc : nc < 100) (hB1 : w.cell? ⟨B, 1, none⟩ = some (.slice (some ⟨C, 0, none⟩) nc nc)) (hC : w.cell? ⟨C, (pg pc).arg, none⟩ = some (.int .i64 v)) (hBl : B < w.heap.size) (hCl : C < w.heap.size)
    (hCf : w.frozen? ⟨C, (pg pc).arg, none⟩ = false) (posi : Int) (hgo : ∀ a (y : Ext w), Hed R B a → Q (.exit 1) a (y.now.setCell ⟨C, (pg pc).arg, none⟩ (.int .i64 posi)))
    (hfr : Frm R B pc posi true a) : btTail.wp Tryz.prog Q a w := by
  have e := frm_lit hfr
  exact Eq.mpr (congrArg (fun x => btTail.wp Tryz.prog Q x w) e) (enter_cap_back _ _ _ _ _ _ _ _ _ _ _ _ _ _ _ _ _ _ _ _ _ _ _ _ _ _ _ _ _ _ _ _ _ _ _ _ _ _ _ _ _ _ _ _ _ _ _ _ _ _ _ _ _ _ _ _ _ _ _ _ _ _ _ _ _ _ _ _ _ _ _ _ _ _ _ _ _ _ _ _ _ _ _ _ _ _ _ _ _ _ _ _ _ _ _ _ _ _ _ _ _ _ _ _ _ _ _ _ _ _ _ _ _ _ _ _ _ _ _ _ _ _ _ _ _ _ _ _ _ _ _ _ _ _ _ _ _ _ _ _ _ _ _ _ _ _ _ _ _ _ _ _ _ _ _ _ _ _ _ _ _ _ _ _ _ _ _ _ _ _ _ _ _ _ _ _ _ _ _ _ _ _ _ _ _ _ _ _ _ _ _ _ _ _ _ _ _ _ _ _ _ _ _ _ _ _ _ _ _ _ _ _ _ _ _ _ _ _ _ _ _ _ _ _ _ _ _ _ _ _ _ _ _ _ _ _ _ _ _ _ _ _ _ _ _ _ _ _ _ _ _ _ _ _ _ _ _ _ _ _ _ _ _ _ _ _ _ _ _ _ _ _ _ _ _ _ _ _ _ _ _ _ _ _ _ _ _ _ _ _ _ _ _ _ _ _ _ _ _ _ _ _ _ _ _ _ _ _ _ _ _ _ _ _ _ _ _ _ _ _ _ _ _ _ _ _ _ _ _ _ _ _ _ _ _ _ _ _ _ _ _ _ _ _ _ _ _ _ _ _ _ _ _ _ _ _ _ _ _ _ _ _ _ _ _ _ _ _ _ _ _ _ _ _ _ _ _ _ _ _ _ _ _ _ _ _ _ _ _ _ _ _ _ _ N R PR I np pg w hP pc hp0 hpc B Q hop C nc v hK _hnc hB1 hC hBl hCl hCf posi hgo)

set_option maxRecDepth 1000000 in
theorem enter_cap_f {a : Act} (N R PR I np : Nat) (pg : Nat → Inst) (w : World) (hP : ProgAt w N R PR I np pg) (pc : Nat) (hp0 : 0 < pc) (hpc : pc < np) (B pos : Nat) (Q : Exit → Act → World → Prop)
    (hop : (pg pc).op = 2) (C nc : Nat) (v : Int) (hK : (pg pc).arg < nc) (_hnc : nc < 100) (hB1 : w.cell? ⟨B, 1, none⟩ = some (.slice (some ⟨C, 0, none⟩) nc nc)) (hC : w.cell? ⟨C, (pg pc).arg, none⟩ = some (.int .i64 v)) (hBl : B < w.heap.size) (hCl : C < w.heap.size) (hIC : I ≠ C)
    (G : World → Prop) (hG : ∀ w', G w' → ProgAt w' N R PR I np pg ∧ w'.cell? ⟨B, 1, none⟩ = some (.slice (some ⟨C, 0, none⟩) nc nc) ∧ (∃ v', w'.cell? ⟨C, (pg pc).arg, none⟩ = some v') ∧ w'.frozen? ⟨C, (pg pc).arg, none⟩ = false ∧ B < w'.heap.size ∧ C < w'.heap.size)
    (hpush : ∀ y : Ext w, Calls Tryz.prog 92 #[.pointer (some ⟨B, 0, none⟩), .pointer (some ⟨R, 0, none⟩), .int .u32 pc, .int .i64 v, .bool true] y.now fun e w' => e = .returned (.tuple #[]) ∧ G w')
    (hgo : ∀ a w1 (y : Ext w1), G w1 → Frm R B (pg pc).out pos false a → Q (.goto 1) a (y.now.setCell ⟨C, (pg pc).arg, none⟩ (.int .i64 pos)))
    (hfr : Frm R B pc pos false a) : btTail.wp Tryz.prog Q a w := by
  have e := frm_lit hfr
  exact Eq.mpr (congrArg (fun x => btTail.wp Tryz.prog Q x w) e) (enter_cap _ _ _ _ _ _ _ _ _ _ _ _ _ _ _ _ _ _ _ _ _ _ _ _ _ _ _ _ _ _ _ _ _ _ _ _ _ _ _ _ _ _ _ _ _ _ _ _ _ _ _ _ _ _ _ _ _ _ _ _ _ _ _ _ _ _ _ _ _ _ _ _ _ _ _ _ _ _ _ _ _ _ _ _ _ _ _ _ _ _ _ _ _ _ _ _ _ _ _ _ _ _ _ _ _ _ _ _ _ _ _ _ _ _ _ _ _ _ _ _ _ _ _ _ _ _ _ _ _ _ _ _ _ _ _ _ _ _ _ _ _ _ _ _ _ _ _ _ _ _ _ _ _ _ _ _ _ _ _ _ _ _ _ _ _ _ _ _ _ _ _ _ _ _ _ _ _ _ _ _ _ _ _ _ _ _ _ _ _ _ _ _ _ _ _ _ _ _ _ _ _ _ _ _ _ _ _ _ _ _ _ _ _ _ _ _ _ _ _ _ _ _ _ _ _ _ _ _ _ _ _ _ _ _ _ _ _ _ _ _ _ _ _ _ _ _ _ _ _ _ _ _ _ _ _ _ _ _ _ _ _ _ _ _ _ _ _ _ _ _ _ _ _ _ _ _ _ _ _ _ _ _ _ _ _ _ _ _ _ _ _ _ _ _ _ _ _ _ _ _ _ _ _ _ _ _ _ _ _ _ _ _ _ _ _ _ _ _ _ _ _ _ _ _ _ _ _ _ _ _ _ _ _ _ _ _ _ _ _ _ _ _ _ _ _ _ _ _ _ _ _ _ _ _ _ _ _ _ _ _ _ _ _ _ _ _ _ _ _ _ _ _ _ _ _ _ _ _ _ _ _ _ _ _ _ _ _ _ _ _ _ _ _ _ N R PR I np pg w hP pc hp0 hpc B pos Q hop C nc v hK _hnc hB1 hC hBl hCl hIC G hG hpush hgo)

set_option maxRecDepth 1000000 in
theorem enter_match_f {a : Act} (N R PR I np : Nat) (pg : Nat → Inst) (w : World) (hP : ProgAt w N R PR I np pg) (pc : Nat) (hp0 : 0 < pc) (hpc : pc < np) (B pos : Nat) (Q : Exit → Act → World → Prop)
    (hop : (pg pc).op = 4) (C MC n : Nat) (bl lc lm : List Value) (tB tC tM : TypeId) (hB : Blk w B bl tB) (hC : Blk w C lc tC) (hM : Blk w MC lm tM) (hb1 : bl[1]? = some (.slice (some ⟨C, 0, none⟩) n n)) (hb2 : bl[2]? = some (.slice (some ⟨MC, 0, none⟩) n n))
    (hlc : lc.length = n) (hlm : lm.length = n) (hn : 2 ≤ n) (hn2 : n < 100) (hm1 : lm[1]? = some (.int .i64 (-1))) (hone : ∀ v ∈ lc, v.oneCell' = true) (hd : B ≠ C ∧ MC ≠ C ∧ C ≠ R) (_hBM : B ≠ MC)
    (hgo : ∀ a w', a.tmps.size = 401 → a.defers = [] → a.tmps.getD 10 undef = .bool true → Blk w' MC (lc.set 1 (.int .i64 pos)) tM → Chg [C, MC] w w' → Q .ret a w')
    (hfr : Frm R B pc pos false a) : btTail.wp Tryz.prog Q a w := by
  have e := frm_lit hfr
  exact Eq.mpr (congrArg (fun x => btTail.wp Tryz.prog Q x w) e) (enter_match _ _ _ _ _ _ _ _ _ _ _ _ _ _ _ _ _ _ _ _ _ _ _ _ _ _ _ _ _ _ _ _ _ _ _ _ _ _ _ _ _ _ _ _ _ _ _ _ _ _ _ _ _ _ _ _ _ _ _ _ _ _ _ _ _ _ _ _ _ _ _ _ _ _ _ _ _ _ _ _ _ _ _ _ _ _ _ _ _ _ _ _ _ _ _ _ _ _ _ _ _ _ _ _ _ _ _ _ _ _ _ _ _ _ _ _ _ _ _ _ _ _ _ _ _ _ _ _ _ _ _ _ _ _ _ _ _ _ _ _ _ _ _ _ _ _ _ _ _ _ _ _ _ _ _ _ _ _ _ _ _ _ _ _ _ _ _ _ _ _ _ _ _ _ _ _ _ _ _ _ _ _ _ _ _ _ _ _ _ _ _ _ _ _ _ _ _ _ _ _ _ _ _ _ _ _ _ _ _ _ _ _ _ _ _ _ _ _ _ _ _ _ _ _ _ _ _ _ _ _ _ _ _ _ _ _ _ _ _ _ _ _ _ _ _ _ _ _ _ _ _ _ _ _ _ _ _ _ _ _ _ _ _ _ _ _ _ _ _ _ _ _ _ _ _ _ _ _ _ _ _ _ _ _ _ _ _ _ _ _ _ _ _ _ _ _ _ _ _ _ _ _ _ _ _ _ _ _ _ _ _ _ _ _ _ _ _ _ _ _ _ _ _ _ _ _ _ _ _ _ _ _ _ _ _ _ _ _ _ _ _ _ _ _ _ _ _ _ _ _ _ _ _ _ _ _ _ _ _ _ _ _ _ _ _ _ _ _ _ _ _ _ _ _ _ _ _ _ _ _ _ _ _ _ _ _ _ _ _ _ _ _ _ _ N R PR I np pg w hP pc hp0 hpc B pos Q hop C MC n bl lc lm tB tC tM hB hC hM hb1 hb2 hlc hlm hn hn2 hm1 hone hd _hBM hgo)

set_option maxRecDepth 1000000 in
theorem head_go_f {a : Act} (R B : Nat) (w : World) (Q : Exit → Act → World → Prop)
    (J n cj : Nat) (hn : n < 1000000000) (h3 : w.cell? ⟨B, 3, none⟩ = some (.slice (some ⟨J, 0, none⟩) (n + 1) cj)) (hgo : ∀ a, Hed R B a → (Code.scope btScope).wp Tryz.prog (Exit.inBlock 1 Q) a w)
    (hfr : Hed R B a) : btLoop.wp Tryz.prog Q a w := by
  have e := hed_lit hfr
  exact Eq.mpr (congrArg (fun x => btLoop.wp Tryz.prog Q x w) e) (head_go _ _ _ _ _ _ _ _ _ _ _ _ _ _ _ _ _ _ _ _ _ _ _ _ _ _ _ _ _ _ _ _ _ _ _ _ _ _ _ _ _ _ _ _ _ _ _ _ _ _ _ _ _ _ _ _ _ _ _ _ _ _ _ _ _ _ _ _ _ _ _ _ _ _ _ _ _ _ _ _ _ _ _ _ _ _ _ _ _ _ _ _ _ _ _ _ _ _ _ _ _ _ _ _ _ _ _ _ _ _ _ _ _ _ _ _ _ _ _ _ _ _ _ _ _ _ _ _ _ _ _ _ _ _ _ _ _ _ _ _ _ _ _ _ _ _ _ _ _ _ _ _ _ _ _ _ _ _ _ _ _ _ _ _ _ _ _ _ _ _ _ _ _ _ _ _ _ _ _ _ _ _ _ _ _ _ _ _ _ _ _ _ _ _ _ _ _ _ _ _ _ _ _ _ _ _ _ _ _ _ _ _ _ _ _ _ _ _ _ _ _ _ _ _ _ _ _ _ _ _ _ _ _ _ _ _ _ _ _ _ _ _ _ _ _ _ _ _ _ _ _ _ _ _ _ _ _ _ _ _ _ _ _ _ _ _ _ _ _ _ _ _ _ _ _ _ _ _ _ _ _ _ _ _ _ _ _ _ _ _ _ _ _ _ _ _ _ _ _ _ _ _ _ _ _ _ _ _ _ _ _ _ _ _ _ _ _ _ _ _ _ _ _ _ _ _ _ _ _ _ _ _ _ _ _ _ _ _ _ _ _ _ _ _ _ _ _ _ _ _ _ _ _ _ _ _ _ _ _ _ _ _ _ _ _ _ _ _ _ _ _ _ _ _ _ _ _ _ _ _ _ _ _ _ _ _ _ _ _ _ _ _ _ _ _ _ _ R B w Q J n cj hn h3 hgo)

set_option maxRecDepth 1000000 in
theorem pop_go_f {a : Act} (R B : Nat) (w : World) (Q : Exit → Act → World → Prop)
    (J n cj : Nat) (hn : n < 1000000000) (h3 : w.cell? ⟨B, 3, none⟩ = some (.slice (some ⟨J, 0, none⟩) (n + 1) cj)) (hf : w.frozen? ⟨B, 3, none⟩ = false) (hcj : n + 1 ≤ cj) (pc : Nat) (arg : Bool) (pos : Int)
    (j0 : w.cell? ⟨J, n * 3, none⟩ = some (.int .u32 pc)) (j1 : w.cell? ⟨J, n * 3 + 1, none⟩ = some (.bool arg)) (j2 : w.cell? ⟨J, n * 3 + 2, none⟩ = some (.int .i64 pos))
    (hgo : ∀ a, Frm R B pc pos arg a → Q (.goto 0) a (w.setCell ⟨B, 3, none⟩ (.slice (some ⟨J, 0, none⟩) n cj)))
    (hfr : Hed R B a) : btScope.wp Tryz.prog Q a w := by
  have e := hed_lit hfr
  exact Eq.mpr (congrArg (fun x => btScope.wp Tryz.prog Q x w) e) (pop_go _ _ _ _ _ _ _ _ _ _ _ _ _ _ _ _ _ _ _ _ _ _ _ _ _ _ _ _ _ _ _ _ _ _ _ _ _ _ _ _ _ _ _ _ _ _ _ _ _ _ _ _ _ _ _ _ _ _ _ _ _ _ _ _ _ _ _ _ _ _ _ _ _ _ _ _ _ _ _ _ _ _ _ _ _ _ _ _ _ _ _ _ _ _ _ _ _ _ _ _ _ _ _ _ _ _ _ _ _ _ _ _ _ _ _ _ _ _ _ _ _ _ _ _ _ _ _ _ _ _ _ _ _ _ _ _ _ _ _ _ _ _ _ _ _ _ _ _ _ _ _ _ _ _ _ _ _ _ _ _ _ _ _ _ _ _ _ _ _ _ _ _ _ _ _ _ _ _ _ _ _ _ _ _ _ _ _ _ _ _ _ _ _ _ _ _ _ _ _ _ _ _ _ _ _ _ _ _ _ _ _ _ _ _ _ _ _ _ _ _ _ _ _ _ _ _ _ _ _ _ _ _ _ _ _ _ _ _ _ _ _ _ _ _ _ _ _ _ _ _ _ _ _ _ _ _ _ _ _ _ _ _ _ _ _ _ _ _ _ _ _ _ _ _ _ _ _ _ _ _ _ _ _ _ _ _ _ _ _ _ _ _ _ _ _ _ _ _ _ _ _ _ _ _ _ _ _ _ _ _ _ _ _ _ _ _ _ _ _ _ _ _ _ _ _ _ _ _ _ _ _ _ _ _ _ _ _ _ _ _ _ _ _ _ _ _ _ _ _ _ _ _ _ _ _ _ _ _ _ _ _ _ _ _ _ _ _ _ _ _ _ _ _ _ _ _ _ _ _ _ _ _ _ _ _ _ _ _ _ _ _ _ _ _ _ _ _ R B w Q J n cj hn h3 hf hcj pc arg pos j0 j1 j2 hgo)

set_option maxRecDepth 1000000 in
theorem visit_no_f {a : Act} (R B : Nat) (w : World) (Q : Exit → Act → World → Prop)
    (pc : Nat) (pos : Int) (G : World → Prop) (hv : Calls Tryz.prog 93 #[.pointer (some ⟨B, 0, none⟩), .int .u32 pc, .int .i64 pos] w fun e w' => e = .returned (.bool false) ∧ G w') (hgo : ∀ a w', G w' → Hed R B a → Q (.exit 1) a w')
    (hfr : Frm R B pc pos false a) : (btRest 1).wp Tryz.prog Q a w := by
  have e := frm_lit hfr
  exact Eq.mpr (congrArg (fun x => (btRest 1).wp Tryz.prog Q x w) e) (visit_no _ _ _ _ _ _ _ _ _ _ _ _ _ _ _ _ _ _ _ _ _ _ _ _ _ _ _ _ _ _ _ _ _ _ _ _ _ _ _ _ _ _ _ _ _ _ _ _ _ _ _ _ _ _ _ _ _ _ _ _ _ _ _ _ _ _ _ _ _ _ _ _ _ _ _ _ _ _ _ _ _ _ _ _ _ _ _ _ _ _ _ _ _ _ _ _ _ _ _ _ _ _ _ _ _ _ _ _ _ _ _ _ _ _ _ _ _ _ _ _ _ _ _ _ _ _ _ _ _ _ _ _ _ _ _ _ _ _ _ _ _ _ _ _ _ _ _ _ _ _ _ _ _ _ _ _ _ _ _ _ _ _ _ _ _ _ _ _ _ _ _ _ _ _ _ _ _ _ _ _ _ _ _ _ _ _ _ _ _ _ _ _ _ _ _ _ _ _ _ _ _ _ _ _ _ _ _ _ _ _ _ _ _ _ _ _ _ _ _ _ _ _ _ _ _ _ _ _ _ _ _ _ _ _ _ _ _ _ _ _ _ _ _ _ _ _ _ _ _ _ _ _ _ _ _ _ _ _ _ _ _ _ _ _ _ _ _ _ _ _ _ _ _ _ _ _ _ _ _ _ _ _ _ _ _ _ _ _ _ _ _ _ _ _ _ _ _ _ _ _ _ _ _ _ _ _ _ _ _ _ _ _ _ _ _ _ _ _ _ _ _ _ _ _ _ _ _ _ _ _ _ _ _ _ _ _ _ _ _ _ _ _ _ _ _ _ _ _ _ _ _ _ _ _ _ _ _ _ _ _ _ _ _ _ _ _ _ _ _ _ _ _ _ _ _ _ _ _ _ _ _ _ _ _ _ _ _ _ _ _ _ _ _ _ R B w Q pc pos G hv hgo)

set_option maxRecDepth 1000000 in
theorem visit_yes_f {a : Act} (R B : Nat) (w : World) (Q : Exit → Act → World → Prop)
    (pc : Nat) (pos : Int) (G : World → Prop) (hv : Calls Tryz.prog 93 #[.pointer (some ⟨B, 0, none⟩), .int .u32 pc, .int .i64 pos] w fun e w' => e = .returned (.bool true) ∧ G w') (hgo : ∀ a w', G w' → Frm R B pc pos false a → btTail.wp Tryz.prog Q a w')
    (hfr : Frm R B pc pos false a) : (btRest 1).wp Tryz.prog Q a w := by
  have e := frm_lit hfr
  exact Eq.mpr (congrArg (fun x => (btRest 1).wp Tryz.prog Q x w) e) (visit_yes _ _ _ _ _ _ _ _ _ _ _ _ _ _ _ _ _ _ _ _ _ _ _ _ _ _ _ _ _ _ _ _ _ _ _ _ _ _ _ _ _ _ _ _ _ _ _ _ _ _ _ _ _ _ _ _ _ _ _ _ _ _ _ _ _ _ _ _ _ _ _ _ _ _ _ _ _ _ _ _ _ _ _ _ _ _ _ _ _ _ _ _ _ _ _ _ _ _ _ _ _ _ _ _ _ _ _ _ _ _ _ _ _ _ _ _ _ _ _ _ _ _ _ _ _ _ _ _ _ _ _ _ _ _ _ _ _ _ _ _ _ _ _ _ _ _ _ _ _ _ _ _ _ _ _ _ _ _ _ _ _ _ _ _ _ _ _ _ _ _ _ _ _ _ _ _ _ _ _ _ _ _ _ _ _ _ _ _ _ _ _ _ _ _ _ _ _ _ _ _ _ _ _ _ _ _ _ _ _ _ _ _ _ _ _ _ _ _ _ _ _ _ _ _ _ _ _ _ _ _ _ _ _ _ _ _ _ _ _ _ _ _ _ _ _ _ _ _ _ _ _ _ _ _ _ _ _ _ _ _ _ _ _ _ _ _ _ _ _ _ _ _ _ _ _ _ _ _ _ _ _ _ _ _ _ _ _ _ _ _ _ _ _ _ _ _ _ _ _ _ _ _ _ _ _ _ _ _ _ _ _ _ _ _ _ _ _ _ _ _ _ _ _ _ _ _ _ _ _ _ _ _ _ _ _ _ _ _ _ _ _ _ _ _ _ _ _ _ _ _ _ _ _ _ _ _ _ _ _ _ _ _ _ _ _ _ _ _ _ _ _ _ _ _ _ _ _ _ _ _ _ _ _ _ _ _ _ _ _ _ _ _ _ _ R B w Q pc pos G hv hgo)

end Go.Proofs.YtooggfopjaaejaaGreatDoor
namespace Go.Proofs.YtooggfopjaaejaaGreatDoor
open Go.RowKit Go.Rx

/-- What is asked of a program. -/
structure Wf (L : Lay) : Prop where
  nc : 2 ≤ L.nc ∧ L.nc < 100
  ops : ∀ pc, 0 < pc → pc < L.np → (L.pg pc).op = 0 ∨ (L.pg pc).op = 2 ∨ (L.pg pc).op = 3 ∨ (L.pg pc).op = 4 ∨ (L.pg pc).op = 6 ∨ (L.pg pc).op = 7 ∨ (L.pg pc).op = 8
  out : ∀ pc, 0 < pc → pc < L.np → (L.pg pc).op ≠ 4 → 0 < (L.pg pc).out ∧ (L.pg pc).out < L.np
  alt : ∀ pc, 0 < pc → pc < L.np → (L.pg pc).op = 0 → 0 < (L.pg pc).arg ∧ (L.pg pc).arg < L.np
  cap : ∀ pc, 0 < pc → pc < L.np → (L.pg pc).op = 2 → (L.pg pc).arg < L.nc
  ew : ∀ pc, 0 < pc → pc < L.np → (L.pg pc).op = 3 → (L.pg pc).arg = 4 ∨ (L.pg pc).arg = 8
  cls : ∀ pc, 0 < pc → pc < L.np → (L.pg pc).op = 7 → ClassLen (L.pg pc).rune.length ∧ classTakes (L.pg pc).rune (-1) = false
  one : ∀ pc, 0 < pc → pc < L.np → (L.pg pc).op = 8 → ∃ x, (L.pg pc).rune = [x] ∧ x ≠ -1

/-- The search's world as the plain theory has it. -/
def envOf (L : Lay) (rank : Nat → Nat) (top : Nat) : Env where
  prog := L.pg
  n := L.s.size
  st := fun p => (runeAt L.s p, if p < L.s.size then 1 else 0)
  ew := fun a p => if a = 4 then decide (p = 0) else decide (p = L.s.size)
  takes := fun i r => if i.op = 7 then classTakes i.rune r else decide (i.rune = [r])
  rank := rank
  top := top

/-- The machine's state is in bounds. -/
structure Good (L : Lay) (b : Env.BS) : Prop where
  cap : b.cap.length = L.nc
  mcap : b.mcap.length = L.nc
  mone : b.mcap[1]? = some (-1)
  jobs : ∀ j, j ∈ b.jobs → 0 < j.pc ∧ j.pc < L.np ∧ (((L.pg j.pc).op = 2 ∧ j.arg = true) ∨ (((L.pg j.pc).op = 0 ∨ j.arg = false) ∧ 0 ≤ j.pos ∧ j.pos ≤ L.en))
  len : b.jobs.length ≤ cnt L.np L.en b.vis

/-- What follows a move. -/
def Out (L : Lay) (Q : Exit → Act → World → Prop) : Env.BS × Env.Mode → Prop
  | (b, .pop) => ∀ a w, Hed L.R L.B a → BtMem L b w → Good L b → Q (.exit 1) a w
  | (b, .go pc pos) => 0 < pc → pc < L.np → pos ≤ L.en → ∀ a w, Frm L.R L.B pc pos false a → BtMem L b w → Good L b → Q (.goto 1) a w
  | (b, .fin ok) => ∀ a w, a.tmps.size = 401 → a.defers = [] → a.tmps.getD 10 undef = .bool ok → Below L.N L.w0 w → Blk w L.MC (intCells b.mcap) L.tM → Stands L w → Q .ret a w

/-- What is known of a search. -/
structure Ctx (L : Lay) : Prop where
  ap : Apart L
  bd : Bounds L
  wf : Wf L
  en : L.en = L.s.size
  plain : Plain L.s

theorem step_any {L : Lay} (cx : Ctx L) {b : Env.BS} {w : World} (h : BtMem L b w) (pos : Nat) :
    Calls Tryz.prog 160 #[.pointer (some ⟨L.B, 5, none⟩), .int .i64 pos] w fun e w' => e = .returned (.tuple #[.int .i32 (runeAt L.s pos), .int .i64 ((if pos < L.s.size then 1 else 0 : Nat) : Int)]) ∧ w' = w := by
  obtain ⟨J, cj, h1, _⟩ := h.jobs
  have hs : w.cell? ⟨L.B, 5, none⟩ = some (.string L.s) := (h1.cell 5).trans rfl
  have hb := cx.bd.en
  have he := cx.en
  by_cases hp : pos < L.s.size
  · unfold runeAt
    rw [dif_pos hp, if_pos hp]
    exact step_in L.B pos L.s w hs hp (cx.plain pos hp) (by omega)
  · unfold runeAt
    rw [dif_neg hp, if_neg hp]
    exact step_end L.B pos L.s w hs hp

theorem context_any {L : Lay} (cx : Ctx L) {b : Env.BS} {w : World} (h : BtMem L b w) (pos : Nat) (hpos : pos ≤ L.en) :
    Calls Tryz.prog 157 #[.pointer (some ⟨L.B, 5, none⟩), .int .i64 pos] w fun e w' => e = .returned (.int .u64 (flagOf (runeAhead L.s pos) (runeAt L.s pos))) ∧ w' = w := by
  obtain ⟨J, cj, h1, _⟩ := h.jobs
  have hs : w.cell? ⟨L.B, 5, none⟩ = some (.string L.s) := (h1.cell 5).trans rfl
  have hb := cx.bd.en
  have he := cx.en
  by_cases hp : pos = 0
  · subst hp
    exact context_zero L.B L.s w hs cx.plain (by omega)
  · exact context_pos L.B pos L.s w hs cx.plain (by omega) (by omega) (by omega)

theorem rune_bounds {L : Lay} (cx : Ctx L) (pos : Nat) : -1 ≤ runeAt L.s pos ∧ runeAt L.s pos < 1114112 ∧ (runeAt L.s pos < 0 ↔ ¬ pos < L.s.size) := by
  unfold runeAt
  by_cases h : pos < L.s.size
  · rw [dif_pos h]
    have := cx.plain pos h
    exact ⟨by omega, by omega, by constructor <;> intro <;> omega⟩
  · rw [dif_neg h]
    exact ⟨by omega, by omega, by constructor <;> intro <;> omega⟩

theorem begin_iff {L : Lay} (cx : Ctx L) (pos : Nat) (hpos : pos ≤ L.s.size) : decide (wrap32 (flagOf (runeAhead L.s pos) (runeAt L.s pos) / 4294967296) < 0) = decide (pos = 0) := by
  unfold runeAhead
  by_cases h : pos = 0
  · rw [if_pos h, flag_hi _ _ (by omega) (by omega)]
    simp [h]
  · rw [if_neg h]
    obtain ⟨a, b, c⟩ := rune_bounds cx (pos - 1)
    rw [flag_hi _ _ a b]
    have : ¬ runeAt L.s (pos - 1) < 0 := by rw [c]; omega
    simp [this, h]

theorem end_iff {L : Lay} (cx : Ctx L) (pos : Nat) (hpos : pos ≤ L.s.size) : decide (wrap32 (flagOf (runeAhead L.s pos) (runeAt L.s pos)) < 0) = decide (pos = L.s.size) := by
  obtain ⟨a, b, c⟩ := rune_bounds cx pos
  rw [flag_lo _ _ a b]
  by_cases h : pos = L.s.size
  · have : runeAt L.s pos < 0 := by rw [c]; omega
    simp [h]
    rw [← h]; exact this
  · have : ¬ runeAt L.s pos < 0 := by rw [c]; omega
    simp [h]
    omega

theorem rune_end {L : Lay} {pos : Nat} (h : ¬ pos < L.s.size) : runeAt L.s pos = -1 := by unfold runeAt; rw [dif_neg h]

theorem enter_sim {L : Lay} (cx : Ctx L) (rank : Nat → Nat) (top : Nat) {b : Env.BS} {w : World} {a : Act} (h : BtMem L b w) (g : Good L b) (hl : b.jobs.length + 1 ≤ cnt L.np L.en b.vis) (pc pos : Nat) (hp0 : 0 < pc) (hpc : pc < L.np) (hpos : pos ≤ L.en)
    (hf : Frm L.R L.B pc pos false a) (Q : Exit → Act → World → Prop) (ho : Out L Q (Env.enter (envOf L rank top) b pc pos)) : btTail.wp Tryz.prog Q a w := by
  have wf := cx.wf
  have hen := cx.en
  have hbe := cx.bd.en
  have hs := step_any cx h pos
  have hwd : (if pos < L.s.size then 1 else 0 : Nat) < 10 := by split <;> omega
  have hn : b.jobs.length < 1000000000 := by
    have h1 := cnt_le L.np L.en b.vis
    have h2 : L.np * (L.en + 1) ≤ 500 * 262145 := Nat.mul_le_mul cx.bd.np (by omega)
    omega
  unfold Env.enter at ho
  rcases wf.ops pc hp0 hpc with hop | hop | hop | hop | hop | hop | hop
  · -- alternatives
    simp only [envOf, hop, if_true] at ho
    obtain ⟨o1, o2⟩ := wf.out pc hp0 hpc (by omega)
    refine enter_alt_f L.N L.R L.PR L.I L.np L.pg w h.prog pc hp0 hpc L.B pos Q (BtMem L { b with jobs := ⟨pc, true, pos⟩ :: b.jobs }) (fun w' h' => h'.prog) (push_mem cx.ap cx.bd h pc hp0 hpc (by omega) hn pos) hop ?_ hf
    intro a' w' hf' h'
    refine ho o1 o2 hpos a' w' hf' h' ⟨g.cap, g.mcap, g.mone, ?_, hl⟩
    intro j hj
    rcases List.mem_cons.1 hj with rfl | hj
    · exact ⟨hp0, hpc, .inr ⟨.inl hop, by simp, by simpa using hpos⟩⟩
    · exact g.jobs j hj
  · -- a capture
    have hK := wf.cap pc hp0 hpc hop
    obtain ⟨o1, o2⟩ := wf.out pc hp0 hpc (by omega)
    have hcl := g.cap
    simp only [envOf, hop] at ho
    simp [hcl, hK] at ho
    have hKl : (L.pg pc).arg < b.cap.length := by omega
    obtain ⟨v, hvd⟩ : ∃ v, v = b.cap[(L.pg pc).arg]'hKl := ⟨_, rfl⟩
    rw [← hvd] at ho
    have hv : b.cap[(L.pg pc).arg]? = some v := by rw [hvd]; exact List.getElem?_eq_getElem _
    clear hvd
    obtain ⟨J, cj, h1, _⟩ := h.jobs
    have hcc : w.cell? ⟨L.C, (L.pg pc).arg, none⟩ = some (.int .i64 v) := by rw [h.cap.cell]; unfold intCells; rw [List.getElem?_map, hv]; rfl
    have hIC : L.I ≠ L.C := by have := h.prog.lt; have := cx.ap.C; omega
    refine enter_cap_f L.N L.R L.PR L.I L.np L.pg w h.prog pc hp0 hpc L.B pos Q hop L.C L.nc v hK wf.nc.2 ((h1.cell 1).trans rfl) hcc h1.lt h.cap.lt hIC (BtMem L { b with jobs := ⟨pc, true, v⟩ :: b.jobs }) ?_ (fun y => push_mem cx.ap cx.bd (h.ext y) pc hp0 hpc (by omega) hn v) ?_ hf
    · intro w' h'
      obtain ⟨J', cj', q1, _⟩ := h'.jobs
      refine ⟨h'.prog, (q1.cell 1).trans rfl, ⟨.int .i64 v, ?_⟩, h'.cap.free _, q1.lt, h'.cap.lt⟩
      rw [h'.cap.cell]; unfold intCells; rw [List.getElem?_map, hv]; rfl
    · intro a' w1 y h' hf'
      refine ho o1 o2 hpos a' _ hf' (BtMem.setCap cx.ap (h'.ext y) _ pos) ⟨by simpa using hcl, g.mcap, g.mone, ?_, hl⟩
      intro j hj
      rcases List.mem_cons.1 hj with rfl | hj
      · exact ⟨hp0, hpc, .inl ⟨hop, rfl⟩⟩
      · exact g.jobs j hj
  · -- an empty width
    obtain ⟨o1, o2⟩ := wf.out pc hp0 hpc (by omega)
    have hctx := context_any cx h pos hpos
    simp only [envOf, hop] at ho
    rcases wf.ew pc hp0 hpc hop with har | har
    · have hm := flag_begin (flagOf (runeAhead L.s pos) (runeAt L.s pos)) w
      rw [begin_iff cx pos (by omega)] at hm
      by_cases hz : pos = 0
      · simp [har, hz] at ho
        rw [decide_eq_true hz] at hm
        refine enter_empty4_true_f L.N L.R L.PR L.I L.np L.pg w h.prog pc hp0 hpc L.B pos Q hop har _ hctx hm ?_ hf
        intro a' hf'
        rw [hz] at hf'
        exact ho o1 o2 (by omega) a' w hf' h g
      · simp [har, hz] at ho
        rw [decide_eq_false hz] at hm
        refine enter_empty4_false_f L.N L.R L.PR L.I L.np L.pg w h.prog pc hp0 hpc L.B pos Q hop har _ hctx hm ?_ hf
        intro a' hf'
        exact ho a' w hf' h g
    · have hm := flag_end (flagOf (runeAhead L.s pos) (runeAt L.s pos)) w
      rw [end_iff cx pos (by omega)] at hm
      by_cases hz : pos = L.s.size
      · rw [decide_eq_true hz] at hm
        simp [har, hz] at ho
        refine enter_empty8_true_f L.N L.R L.PR L.I L.np L.pg w h.prog pc hp0 hpc L.B pos Q hop har _ hctx hm ?_ hf
        intro a' hf'
        rw [hz] at hf'
        exact ho o1 o2 (by omega) a' w hf' h g
      · rw [decide_eq_false hz] at hm
        simp [har, hz] at ho
        refine enter_empty8_false_f L.N L.R L.PR L.I L.np L.pg w h.prog pc hp0 hpc L.B pos Q hop har _ hctx hm ?_ hf
        intro a' hf'
        exact ho a' w hf' h g
  · -- the match
    have hcl := g.cap
    have hnc := wf.nc
    have hg1 : b.mcap.getD 1 0 = -1 := by rw [List.getD_eq_getElem?_getD, g.mone]; rfl
    simp only [envOf, hop] at ho
    simp only [hcl, hg1] at ho
    simp [show ¬ L.nc = 0 by omega, show 1 < L.nc by omega] at ho
    obtain ⟨J, cj, h1, _⟩ := h.jobs
    have hCR : L.C ≠ L.R := by have := h.prog.lt; have := cx.ap.C; omega
    refine enter_match_f L.N L.R L.PR L.I L.np L.pg w h.prog pc hp0 hpc L.B pos Q hop L.C L.MC L.nc _ (intCells b.cap) (intCells b.mcap) L.tB L.tC L.tM h1 h.cap h.mcap rfl rfl (by simpa [intCells] using hcl) (by simpa [intCells] using g.mcap) hnc.1 hnc.2 ?_ ?_ ⟨cx.ap.BC, fun e => cx.ap.CM e.symm, hCR⟩ cx.ap.BM ?_ hf
    · unfold intCells; rw [List.getElem?_map, g.mone]; rfl
    · intro v hv
      unfold intCells at hv
      obtain ⟨x, _, rfl⟩ := List.mem_map.1 hv
      rfl
    · intro a' w' s1 s2 s3 s4 s5
      refine ho a' w' s1 s2 s3 (h.below.trans (s5.below h.prog.le ?_)) ?_ ⟨_, _, _, h1.chg s5 (by simp; exact ⟨cx.ap.BC, cx.ap.BM⟩)⟩
      · intro x hx
        have := cx.ap.C
        have := cx.ap.MC
        simp at hx
        omega
      · unfold intCells at s4 ⊢
        rw [List.map_set]
        exact s4
  · -- no operation
    simp only [envOf, hop] at ho
    obtain ⟨o1, o2⟩ := wf.out pc hp0 hpc (by omega)
    refine enter_nop_f L.N L.R L.PR L.I L.np L.pg w h.prog pc hp0 hpc L.B pos Q hop ?_ hf
    intro a' hf'
    exact ho o1 o2 hpos a' w hf' h g
  · -- a class
    simp only [envOf, hop] at ho
    obtain ⟨o1, o2⟩ := wf.out pc hp0 hpc (by omega)
    obtain ⟨c1, c2⟩ := wf.cls pc hp0 hpc hop
    cases htk : classTakes (L.pg pc).rune (runeAt L.s pos) with
    | true =>
      simp [htk] at ho
      refine enter_rune_yes_f L.N L.R L.PR L.I L.np L.pg w h.prog pc hp0 hpc L.B pos Q _ _ hs hwd (by omega) hop c1 htk ?_ hf
      intro a' hf'
      have hlt : pos < L.s.size := by
        by_cases hlt : pos < L.s.size
        · exact hlt
        · rw [rune_end hlt, c2] at htk; cases htk
      rw [if_pos hlt] at ho hf'
      exact ho o1 o2 (by omega) a' w (by simpa using hf') h g
    | false =>
      simp [htk] at ho
      refine enter_rune_no_f L.N L.R L.PR L.I L.np L.pg w h.prog pc hp0 hpc L.B pos Q _ _ hs hwd (by omega) hop c1 htk ?_ hf
      intro a' hf'
      exact ho a' w hf' h g
  · -- one rune
    obtain ⟨o1, o2⟩ := wf.out pc hp0 hpc (by omega)
    obtain ⟨x, hx, hx1⟩ := wf.one pc hp0 hpc hop
    simp only [envOf, hop] at ho
    by_cases hr : runeAt L.s pos = x
    · simp [hx, hr] at ho
      refine enter_rune1_yes_f L.N L.R L.PR L.I L.np L.pg w h.prog pc hp0 hpc L.B pos Q _ _ hs hwd (by omega) hop x hx hr ?_ hf
      intro a' hf'
      have hlt : pos < L.s.size := by
        by_cases hlt : pos < L.s.size
        · exact hlt
        · rw [rune_end hlt] at hr; exact absurd hr.symm hx1
      rw [if_pos hlt] at ho hf'
      exact ho o1 o2 (by omega) a' w (by simpa using hf') h g
    · simp [hx, Ne.symm hr] at ho
      refine enter_rune1_no_f L.N L.R L.PR L.I L.np L.pg w h.prog pc hp0 hpc L.B pos Q _ _ hs hwd (by omega) hop x hx hr ?_ hf
      intro a' hf'
      exact ho a' w hf' h g

end Go.Proofs.YtooggfopjaaejaaGreatDoor
namespace Go.Proofs.YtooggfopjaaejaaGreatDoor
open Go.RowKit Go.Rx

theorem ex_least {S : Nat → Prop} : ∀ n k, k ≤ n → S k → ∃ m, S m ∧ ∀ j, S j → m ≤ j := by
  intro n
  induction n with
  | zero =>
    intro k hk h
    obtain rfl : k = 0 := by omega
    exact ⟨0, h, fun j _ => Nat.zero_le j⟩
  | succ n ih =>
    intro k hk h
    by_cases hc : ∃ j, j ≤ n ∧ S j
    · obtain ⟨j, hj, hs⟩ := hc
      exact ih j hj hs
    · refine ⟨k, h, fun j hj => ?_⟩
      rcases Nat.lt_or_ge n j with hl | hl
      · omega
      · exact absurd ⟨j, hl, hj⟩ hc

open Classical in
/-- The least number for which something holds. -/
noncomputable def least (S : Nat → Prop) : Nat := if h : ∃ m, S m ∧ ∀ j, S j → m ≤ j then Classical.choose h else 0

theorem least_is {S : Nat → Prop} {k : Nat} (h : S k) : S (least S) ∧ least S ≤ k := by
  have he := ex_least (S := S) k k (Nat.le_refl _) h
  unfold least
  rw [dif_pos he]
  have := Classical.choose_spec he
  exact ⟨this.1, this.2 k h⟩

section
variable {P : Program} {a : Act} {w : World} {Q : Exit → Act → World → Prop}

theorem wp_scope_nat {c : Code} (S : Nat → Nat → Act → World → Prop) (first : c.wp P (Exit.jumps (fun l a w => ∃ k, S l k a w) Q) a w)
    (pass : ∀ k l a w, S l k a w → ∃ rest, findLabel c l = some rest ∧ rest.wp P (Exit.jumps (fun l' a' w' => ∃ k', k' < k ∧ S l' k' a' w') Q) a w) : (Code.scope c).wp P Q a w := by
  refine wp_scope_labels (fun l a w => ∃ k, S l k a w) (fun l a w => least fun k => S l k a w) first ?_
  rintro l a w ⟨k, hk⟩
  obtain ⟨hs, _⟩ := least_is (S := fun k => S l k a w) hk
  obtain ⟨rest, hf, hw⟩ := pass _ l a w hs
  refine ⟨rest, hf, wp_mono hw ?_⟩
  intro e a' w' h
  cases e with
  | goto l' =>
    obtain ⟨k', hlt, hs'⟩ := h
    exact ⟨⟨k', hs'⟩, Nat.lt_of_le_of_lt (least_is (S := fun k => S l' k a' w') hs').2 hlt⟩
  | normal => exact h
  | exit _ => exact h
  | ret => exact h
  | panic _ => exact h
  | outgrown => exact h

theorem wp_loop_nat {c : Code} (S : Nat → Act → World → Prop) (k : Nat) (h0 : S k a w)
    (round : ∀ k a w, S k a w → c.wp P (Exit.then (fun a' w' => ∃ k', k' < k ∧ S k' a' w') Q) a w) : (Code.loop c).wp P Q a w := by
  refine wp_loop (fun a w => ∃ k, S k a w) (fun a w => least fun k => S k a w) ⟨k, h0⟩ ?_
  rintro a w ⟨k, hk⟩
  obtain ⟨hs, _⟩ := least_is (S := fun k => S k a w) hk
  refine wp_mono (round _ a w hs) ?_
  intro e a' w' h
  cases e with
  | normal =>
    obtain ⟨k', hlt, hs'⟩ := h
    exact ⟨⟨k', hs'⟩, Nat.lt_of_le_of_lt (least_is (S := fun k => S k a' w') hs').2 hlt⟩
  | goto _ => exact h
  | exit _ => exact h
  | ret => exact h
  | panic _ => exact h
  | outgrown => exact h

end
end Go.Proofs.YtooggfopjaaejaaGreatDoor
namespace Go.Proofs.YtooggfopjaaejaaGreatDoor
open Go.RowKit Go.Rx

/-- What holds at a label, k moves ahead of the end. -/
def At (L : Lay) (E : Env) (b' : Env.BS) (k0 : Nat) (l k : Nat) (a : Act) (w : World) : Prop :=
  (l = 1 ∧ k ≤ k0 ∧ ∃ b pc pos, 0 < pc ∧ pc < L.np ∧ pos ≤ L.en ∧ Frm L.R L.B pc (pos : Nat) false a ∧ BtMem L b w ∧ Good L b ∧ Env.moves E k (b, .go pc pos) = (b', .fin true)) ∨
    (l = 0 ∧ k ≤ k0 + 1 ∧ ∃ b j r, b.jobs = j :: r ∧ Frm L.R L.B j.pc j.pos j.arg a ∧ BtMem L { b with jobs := r } w ∧ Good L b ∧ Env.moves E k (b, .pop) = (b', .fin true))

/-- What holds at the loop's head. -/
def Top (L : Lay) (E : Env) (b' : Env.BS) (k : Nat) (a : Act) (w : World) : Prop :=
  ∃ b, Hed L.R L.B a ∧ BtMem L b w ∧ Good L b ∧ Env.moves E k (b, .pop) = (b', .fin true)

/-- What holds at the return. -/
def Done (L : Lay) (b' : Env.BS) (a : Act) (w : World) : Prop :=
  a.tmps.size = 401 ∧ a.defers = [] ∧ a.tmps.getD 10 undef = .bool true ∧ Below L.N L.w0 w ∧ Blk w L.MC (intCells b'.mcap) L.tM ∧ Stands L w

theorem moves_fin (E : Env) (b : Env.BS) (ok : Bool) : ∀ k, Env.moves E k (b, .fin ok) = (b, .fin ok)
  | 0 => rfl
  | k + 1 => by rw [Env.moves]; exact moves_fin E b ok k

theorem out_of {L : Lay} {E : Env} {b' : Env.BS} {k0 : Nat} {Q : Exit → Act → World → Prop} (hE : ∀ a w k, k ≤ k0 → Top L E b' k a w → Q (.exit 1) a w) (hR : ∀ a w, Done L b' a w → Q .ret a w)
    (x : Env.BS × Env.Mode) (k : Nat) (hk : k ≤ k0) (h : Env.moves E k x = (b', .fin true)) : Out L (Exit.jumps (fun l a w => ∃ k', k' < k + 1 ∧ At L E b' k0 l k' a w) Q) x := by
  obtain ⟨b, m⟩ := x
  cases m with
  | pop => intro a w hh hm hg; exact hE a w k hk ⟨b, hh, hm, hg, h⟩
  | go pc pos => intro p0 p1 p2 a w hf hm hg; exact ⟨k, by omega, .inl ⟨rfl, hk, b, pc, pos, p0, p1, p2, hf, hm, hg, h⟩⟩
  | fin ok =>
    rw [moves_fin] at h
    injection h with h1 h2
    injection h2 with h2
    subst h1
    subst h2
    intro a w s1 s2 s3 s4 s5 s6
    exact hR a w ⟨s1, s2, s3, s4, s5, s6⟩

theorem pass_one {L : Lay} (cx : Ctx L) (rank : Nat → Nat) (top : Nat) {b' : Env.BS} {k0 : Nat} {Q : Exit → Act → World → Prop} (hE : ∀ a w k, k ≤ k0 → Top L (envOf L rank top) b' k a w → Q (.exit 1) a w) (hR : ∀ a w, Done L b' a w → Q .ret a w)
    (k : Nat) (hk : k ≤ k0) (b : Env.BS) (pc pos : Nat) (p0 : 0 < pc) (p1 : pc < L.np) (p2 : pos ≤ L.en) (a : Act) (w : World) (hf : Frm L.R L.B pc (pos : Nat) false a) (hm : BtMem L b w) (hg : Good L b)
    (h : Env.moves (envOf L rank top) k (b, .go pc pos) = (b', .fin true)) : (btRest 1).wp Tryz.prog (Exit.jumps (fun l a w => ∃ k', k' < k ∧ At L (envOf L rank top) b' k0 l k' a w) Q) a w := by
  cases k with
  | zero => cases h
  | succ k =>
    rw [Env.moves] at h
    have hv := visit_mem cx.ap cx.bd hm pc pos p1 p2
    cases hvis : b.vis pc pos with
    | true =>
      have h' : Env.moves (envOf L rank top) k (b, .pop) = (b', .fin true) := by
        rw [← h]
        congr 1
        show _ = if b.vis pc pos then (b, Env.Mode.pop) else _
        rw [if_pos hvis]
      rw [hvis, mark_same hvis] at hv
      refine visit_no_f L.R L.B w _ pc pos (fun w' => Chg [L.V] w w' ∧ BtMem L b w') hv ?_ hf
      intro a' w' hw hh
      exact hE a' w' k (by omega) ⟨b, hh, hw.2, hg, h'⟩
    | false =>
      have h' : Env.moves (envOf L rank top) k (Env.enter (envOf L rank top) { b with vis := Env.mark b.vis pc pos } pc pos) = (b', .fin true) := by
        rw [← h]
        congr 1
        show _ = if b.vis pc pos then _ else _
        rw [if_neg (by rw [hvis]; exact Bool.false_ne_true)]
      rw [hvis] at hv
      refine visit_yes_f L.R L.B w _ pc pos (fun w' => Chg [L.V] w w' ∧ BtMem L { b with vis := Env.mark b.vis pc pos } w') hv ?_ hf
      intro a' w' hw hf'
      have hc := cnt_mark L.np L.en b.vis pc pos p1 p2 hvis
      have hl := hg.len
      exact enter_sim cx rank top hw.2 ⟨hg.cap, hg.mcap, hg.mone, hg.jobs, by show _ ≤ cnt L.np L.en (Env.mark b.vis pc pos); rw [hc]; exact Nat.le_succ_of_le hl⟩ (by show b.jobs.length + 1 ≤ cnt L.np L.en (Env.mark b.vis pc pos); omega) pc pos p0 p1 p2 hf' _ (out_of hE hR _ k (by omega) h')

end Go.Proofs.YtooggfopjaaejaaGreatDoor
namespace Go.Proofs.YtooggfopjaaejaaGreatDoor
open Go.RowKit Go.Rx

theorem pass_zero {L : Lay} (cx : Ctx L) (rank : Nat → Nat) (top : Nat) {b' : Env.BS} {k0 : Nat} {Q : Exit → Act → World → Prop} (hE : ∀ a w k, k ≤ k0 → Top L (envOf L rank top) b' k a w → Q (.exit 1) a w) (hR : ∀ a w, Done L b' a w → Q .ret a w)
    (k : Nat) (hk : k ≤ k0) (b : Env.BS) (j : Env.Job) (r : List Env.Job) (hb : b.jobs = j :: r) (a : Act) (w : World) (hf : Frm L.R L.B j.pc j.pos j.arg a) (hm : BtMem L { b with jobs := r } w) (hg : Good L b)
    (h : Env.moves (envOf L rank top) (k + 1) (b, .pop) = (b', .fin true)) : (btRest 0).wp Tryz.prog (Exit.jumps (fun l a w => ∃ k', k' < k + 1 ∧ At L (envOf L rank top) b' k0 l k' a w) Q) a w := by
  rw [bt_tail]
  refine wp_seq (wp_skip ?_)
  show btTail.wp Tryz.prog _ a w
  obtain ⟨p0, p1, hj⟩ := hg.jobs j (by rw [hb]; exact List.mem_cons_self ..)
  have hr : ∀ x, x ∈ r → x ∈ b.jobs := fun x hx => by rw [hb]; exact List.mem_cons_of_mem _ hx
  have hlen := hg.len
  rw [hb] at hlen
  simp only [List.length_cons] at hlen
  have hg' : Good L { b with jobs := r } := ⟨hg.cap, hg.mcap, hg.mone, fun x hx => hg.jobs x (hr x hx), by show r.length ≤ _; exact Nat.le_of_succ_le hlen⟩
  obtain ⟨jpc, jarg, jpos⟩ := j
  dsimp only at hj p0 p1 hf hb
  rw [Env.moves] at h
  have out := fun x hx => out_of hE hR x k hk hx
  cases jarg with
  | false =>
    have hp : 0 ≤ jpos ∧ jpos ≤ L.en := by
      rcases hj with ⟨_, h⟩ | ⟨_, h⟩
      · cases h
      · exact h
    have h' : Env.moves (envOf L rank top) k (Env.enter (envOf L rank top) { b with jobs := r } jpc jpos.toNat) = (b', .fin true) := by
      rw [← h]
      congr 1
      simp only [Env.move, hb, Bool.false_eq_true, if_false]
    have e : jpos = ((jpos.toNat : Nat) : Int) := by omega
    rw [e] at hf
    exact enter_sim cx rank top hm hg' (by show r.length + 1 ≤ _; exact hlen) jpc jpos.toNat p0 p1 (by omega) hf _ (out _ h')
  | true =>
    rcases hj with ⟨hop, _⟩ | ⟨hop, hp⟩
    · have h' : Env.moves (envOf L rank top) k ({ b with jobs := r, cap := b.cap.set (L.pg jpc).arg jpos }, .pop) = (b', .fin true) := by
        rw [← h]
        congr 1
        have hop' : ((envOf L rank top).prog jpc).op = 2 := hop
        simp only [Env.move, hb, if_true, hop']
        rfl
      have o := out _ h'
      have hK := cx.wf.cap jpc p0 p1 hop
      have hcl := hg.cap
      obtain ⟨v, hv⟩ : ∃ v, b.cap[(L.pg jpc).arg]? = some v := ⟨_, List.getElem?_eq_getElem (by omega)⟩
      obtain ⟨J, cj, h1, _⟩ := hm.jobs
      have hcc : w.cell? ⟨L.C, (L.pg jpc).arg, none⟩ = some (.int .i64 v) := by
        have := hm.cap.cell (L.pg jpc).arg
        rw [this]; unfold intCells; rw [List.getElem?_map, hv]; rfl
      refine enter_cap_back_f L.N L.R L.PR L.I L.np L.pg w hm.prog jpc p0 p1 L.B _ hop L.C L.nc v hK cx.wf.nc.2 ((h1.cell 1).trans rfl) hcc h1.lt hm.cap.lt (hm.cap.free _) jpos ?_ hf
      intro a' y hh
      exact o a' _ hh (BtMem.setCap cx.ap (hm.ext y) _ jpos) ⟨by simpa using hcl, hg'.mcap, hg'.mone, hg'.jobs, hg'.len⟩
    · have hop0 : (L.pg jpc).op = 0 := by
        rcases hop with h | h
        · exact h
        · cases h
      obtain ⟨o1, o2⟩ := cx.wf.alt jpc p0 p1 hop0
      have h' : Env.moves (envOf L rank top) k ({ b with jobs := r }, .go (L.pg jpc).arg jpos.toNat) = (b', .fin true) := by
        rw [← h]
        congr 1
        have hop' : ((envOf L rank top).prog jpc).op = 0 := hop0
        simp only [Env.move, hb, if_true, hop']
        rfl
      have o := out _ h'
      have e : jpos = ((jpos.toNat : Nat) : Int) := by omega
      rw [e] at hf
      refine enter_alt_back_f L.N L.R L.PR L.I L.np L.pg w hm.prog jpc p0 p1 L.B jpos.toNat _ hop0 ?_ hf
      intro a' hf'
      exact o o1 o2 (by omega) a' w hf' hm hg'

theorem loop_sim {L : Lay} (cx : Ctx L) (rank : Nat → Nat) (top : Nat) {b' : Env.BS} {k : Nat} {a : Act} {w : World} (hT : Top L (envOf L rank top) b' k a w) (Q : Exit → Act → World → Prop) (hR : ∀ a w, Done L b' a w → Q .ret a w) :
    (Code.loop btLoop).wp Tryz.prog Q a w := by
  refine wp_loop_nat (Top L (envOf L rank top) b') k hT ?_
  rintro k a w ⟨b, hh, hm, hg, h⟩
  cases k with
  | zero => cases h
  | succ k =>
    cases hb : b.jobs with
    | nil =>
      rw [Env.moves] at h
      have e : Env.move (envOf L rank top) (b, .pop) = (b, .fin false) := by simp only [Env.move, hb]
      rw [e, moves_fin] at h
      injection h with h1 h2
      injection h2 with h2
      cases h2
    | cons j r =>
      have hlen := hg.len
      rw [hb] at hlen
      simp only [List.length_cons] at hlen
      have hn : r.length < 1000000000 := by
        have h1 := cnt_le L.np L.en b.vis
        have hbe := cx.bd.en
        have h2 : L.np * (L.en + 1) ≤ 500 * 262145 := Nat.mul_le_mul cx.bd.np (by omega)
        omega
      obtain ⟨J, cj, hcj, h3, hf, j0, j1, j2, hm'⟩ := BtMem.pop cx.ap hb hm
      refine head_go_f L.R L.B w _ J r.length cj hn h3 ?_ hh
      intro a1 hh1
      refine wp_scope_nat (At L (envOf L rank top) b' k) ?_ ?_
      · refine pop_go_f L.R L.B w _ J r.length cj hn h3 hf hcj j.pc j.arg j.pos j0 j1 j2 ?_ hh1
        intro a2 hf2
        exact ⟨k + 1, .inr ⟨rfl, Nat.le_refl _, b, j, r, hb, hf2, hm', hg, h⟩⟩
      · have hE : ∀ a w k', k' ≤ k → Top L (envOf L rank top) b' k' a w → (Exit.inBlock 1 (Exit.then (fun a' w' => ∃ k', k' < k + 1 ∧ Top L (envOf L rank top) b' k' a' w') Q)) (.exit 1) a w := by
          intro a w k' hk' ht
          show ∃ k', k' < k + 1 ∧ _
          exact ⟨k', by omega, ht⟩
        have hR' : ∀ a w, Done L b' a w → (Exit.inBlock 1 (Exit.then (fun a' w' => ∃ k', k' < k + 1 ∧ Top L (envOf L rank top) b' k' a' w') Q)) .ret a w := fun a w hd => hR a w hd
        rintro k2 l a2 w2 (⟨rfl, hk2, b2, pc, pos, p0, p1, p2, hf2, hm2, hg2, h2⟩ | ⟨rfl, hk2, b2, j2, r2, hb2, hf2, hm2, hg2, h2⟩)
        · exact ⟨_, bt_label1, pass_one cx rank top hE hR' k2 hk2 b2 pc pos p0 p1 p2 a2 w2 hf2 hm2 hg2 h2⟩
        · cases k2 with
          | zero => cases h2
          | succ k2 => exact ⟨_, bt_label0, pass_zero cx rank top hE hR' k2 (by omega) b2 j2 r2 hb2 a2 w2 hf2 hm2 hg2 h2⟩

end Go.Proofs.YtooggfopjaaejaaGreatDoor
namespace Go.Proofs.YtooggfopjaaejaaGreatDoor
open Go.RowKit Go.Rx

set_option maxRecDepth 1000000 in
set_option maxHeartbeats 4000000 in
theorem try_sim {L : Lay} (cx : Ctx L) (rank : Nat → Nat) (top : Nat) {b b' : Env.BS} {k : Nat} {w : World} (h : BtMem L b w) (hj : b.jobs = []) (hcap : b.cap.length = L.nc) (hmcap : b.mcap.length = L.nc) (hmone : b.mcap[1]? = some (-1))
    (pc pos : Nat) (p0 : 0 < pc) (p1 : pc < L.np) (p2 : pos ≤ L.en) (hv : b.vis pc pos = false) (hop : (L.pg pc).op ≠ 5)
    (hk : Env.moves (envOf L rank top) k ({ b with jobs := [⟨pc, false, pos⟩], vis := Env.mark b.vis pc pos }, .pop) = (b', .fin true)) :
    Calls Tryz.prog 76 #[.pointer (some ⟨L.R, 0, none⟩), .pointer (some ⟨L.B, 0, none⟩), .iface 198 (.pointer (some ⟨L.B, 5, none⟩)), .int .u32 pc, .int .i64 pos] w fun e w' =>
      e = .returned (.bool true) ∧ Below L.N L.w0 w' ∧ Blk w' L.MC (intCells b'.mcap) L.tM ∧ Stands L w' := by
  have hpush := push_first_mem cx.ap cx.bd h pc p0 p1 hop (by rw [hj]; simp) pos p2 hv
  rw [hj] at hpush
  have hl := h.prog.longest
  have HK := Lib.hid hk
  have HC := Lib.hid hcap
  have HM := Lib.hid hmcap
  have H1 := Lib.hid hmone
  have HV := Lib.hid hv
  clear hk hcap hmcap hmone hv hj
  go_enter Tryz.func76, Tryz.ntmps76
  go_wp2_with (first | (go_at_call 92; (with_reducible refine hpush.mono ?_); rintro e w1 ⟨rfl, hm1⟩))
  show (Code.loop btLoop).wp Tryz.prog _ _ _
  refine loop_sim (b' := b') (k := k) cx rank top ⟨_, ⟨rfl, rfl, rfl, rfl, rfl, rfl⟩, hm1, ⟨HC.out, HM.out, H1.out, ?_, ?_⟩, HK.out⟩ _ ?_
  · intro j hj
    simp at hj
    subst hj
    exact ⟨p0, p1, .inr ⟨.inr rfl, by simp, by simpa using p2⟩⟩
  · have := cnt_mark L.np L.en b.vis pc pos p1 p2 HV.out
    simp [this]
  · intro a w' hd
    obtain ⟨d1, d2, d3, d4, d5, d6⟩ := hd
    obtain ⟨t, df⟩ := a
    dsimp only at d1 d2 d3
    subst d2
    show bodyPost Tryz.prog Tryz.f76 (fun e w' => e = .returned (.bool true) ∧ Below L.N L.w0 w' ∧ Blk w' L.MC (intCells b'.mcap) L.tM ∧ Stands L w') .ret ⟨t, []⟩ w'
    refine bodyPost_ret (v := .bool true) ?_ rfl ⟨rfl, d4, d5, d6⟩
    have d3' : t[10]?.getD undef = .bool true := by rw [← Array.getD_eq_getD_getElem?]; exact d3
    simp [results, Tryz.results76, go_sem, d3']

end Go.Proofs.YtooggfopjaaejaaGreatDoor
