/-
  THE PROOF OF 'Rows.FnIsKeywordExactlyTheFifteenKeywordsSaid' over the shell that proof-skeleton.mjs wrote for this function; the walk is filled in.
  Token(n).IsKeyword() tests 59 < n and n < 75; keywordModel names 60 .. 74 one by one: below, above, and fifteen numbers between: in each way both calls answer the same.
-/
import Derived.Test.YoebbwRows
import Derived.WalkKit
import Derived.ProofKit
import Derived.OpenShut
import Derived.ShutString
namespace Go.Proofs.Yoebbw.fnIsKeywordExactlyTheFifteenKeywords
open Go.ChangeShapes Go.WideShapes Go.ChangeAt Go.RowKit
open Go.ChangeMaps (open_string shut_string)
set_option linter.unusedVariables false      -- a walk need not use every 'w<i>' (that an integer argument fits its kind)

theorem own : ownKnob Ebbg.prog.godebug = none := by kernel_rfl

/-! ### STEP 1: THE WALK -/
/-- below the keywords: both callees say no -/
theorem walk_low (n : Int) (h : n < 60) (w : World) :
    Calls Ebbg.prog 3 #[.int .i64 n] w fun e w' => e = .returned (.bool true) ∧ Grown w w' := by
  go_enter Ebbg.func3, Ebbg.ntmps3
  go_wp2
  go_ret
  exact ⟨rfl, by repeat (first | exact Grown.refl _ | apply Grown.drew | apply Grown.alloc)⟩

/-- above the keywords: both callees say no -/
theorem walk_high (n : Int) (h : ¬ n < 75) (w : World) :
    Calls Ebbg.prog 3 #[.int .i64 n] w fun e w' => e = .returned (.bool true) ∧ Grown w w' := by
  go_enter Ebbg.func3, Ebbg.ntmps3
  go_wp2
  go_ret
  exact ⟨rfl, by repeat (first | exact Grown.refl _ | apply Grown.drew | apply Grown.alloc)⟩

/-- the fifteen keywords, one by one: both callees say yes -/
theorem walk_keyword (n : Int) (h1 : 60 ≤ n) (h2 : n ≤ 74) (w : World) :
    Calls Ebbg.prog 3 #[.int .i64 n] w fun e w' => e = .returned (.bool true) ∧ Grown w w' := by
  have hn : n = 60 ∨ n = 61 ∨ n = 62 ∨ n = 63 ∨ n = 64 ∨ n = 65 ∨ n = 66 ∨ n = 67 ∨ n = 68 ∨ n = 69 ∨ n = 70 ∨ n = 71 ∨ n = 72 ∨ n = 73 ∨ n = 74 := by omega
  clear h1 h2
  rcases hn with rfl | rfl | rfl | rfl | rfl | rfl | rfl | rfl | rfl | rfl | rfl | rfl | rfl | rfl | rfl
  all_goals
    go_enter Ebbg.func3, Ebbg.ntmps3
    go_wp2
    go_ret
    exact ⟨rfl, by repeat (first | exact Grown.refl _ | apply Grown.drew | apply Grown.alloc)⟩

theorem walk (a0 : Int) (w0 : (Lit.int .i64 a0).wf = true) (w : World) :
    Calls Ebbg.prog 3 #[.int .i64 a0] w fun e w' => e = .returned (.bool true) ∧ Grown w w' := by
  by_cases h1 : a0 < 60
  · exact walk_low a0 h1 w
  · by_cases h2 : a0 < 75
    · exact walk_keyword a0 (by omega) (by omega) w
    · exact walk_high a0 h2 w

/-! ### THE ROW's STEP: WRITTEN OUT: LEAVE IT -/
set_option maxRecDepth 100000 in
theorem lifted (os : Os) (started : os.Started) (H : Type) (enc : TypeId × Value → H) :
    ReturnsInHanded {} Ebbg.checked os 3 .any (Rows.fnIsKeywordExactlyTheFifteenKeywordsSpec.pre6 enc Ebbg.prog Ebbg.f3 Rows.fnIsKeywordExactlyTheFifteenKeywordsRow.domain false) (Rows.fnIsKeywordExactlyTheFifteenKeywordsSpec.post enc Ebbg.prog Ebbg.f3 false true false false) := by
  refine returnsInHanded_of_change (C := Ebbg.checked) own started (by kernel_rfl) Ebbg.func3
    (ChangeSpec.witness6 (enc := enc) (C := Ebbg.checked) false ⟨#[], #[.int .i64 0], []⟩ 8 (by kernel_rfl) (by kernel_rfl) (by kernel_rfl) (by kernel_rfl)) ?_
  intro W base args ds gs before hval0 hW hcnd _
  have hval : ∀ (j : Nat) t v, Ebbg.f3.params[j]? = some t → args[j]? = some v → Value.okWide Ebbg.prog W .any base t v := hval0
  have hW' := hW
  obtain ⟨p, q, hA0, hV, rfl, hfz, hnd⟩ := hW
  have hA : DataW.TrodAll enc Ebbg.prog W 0 (fun _ => true) true Ebbg.f3.params.toList args.toList ds p := hA0
  rw [Ebbg.params3] at hA hval
  obtain ⟨v0, vs0, d0, ds0, p0, q0, hargs, rfl, rfl, h0, r0⟩ := trodAll_cons hA
  obtain ⟨rfl, rfl, rfl⟩ := trodAll_nil r0
  obtain rfl : args = #[v0] := by cases args; simp_all
  obtain ⟨rfl, rfl⟩ := trodVars_none hV
  obtain ⟨a0, rfl, rfl, rfl, w0⟩ := open_int Ebbg.underlying3 (hval 0 3 v0 rfl rfl) h0
  clear hA0 hval0
  simp only [List.append_nil] at hW'
  refine (walk a0 w0 W).mono fun e W' ⟨he, hg⟩ => ?_
  subst he
  exact ⟨_, rfl, post_of_same (pa := []) (pv := []) hW' (fun _ _ _ => (trodAll_cons_mk (shut_bool Ebbg.underlying4 _) trodAll_mk0)) (fun sp _ => (trodAll_cons_mk (shut_int Ebbg.underlying3 w0) trodAll_mk0)) (fun _ _ => rfl) rfl
    (hg.frame _) hg.2.1 (ok_one (by kernel_rfl) rfl (okWide_bool_mk Ebbg.underlying4 _))⟩

theorem over : Rows.fnIsKeywordExactlyTheFifteenKeywordsRow.holds Ebbg.pinned (OpenSpec.ofChange Rows.fnIsKeywordExactlyTheFifteenKeywordsSpec) :=
  OpenClaim.holds_of_wide 3 Ebbg.f3 rfl rfl rfl rfl rfl rfl rfl ⟨rfl, rfl, rfl, rfl, rfl⟩ rfl rfl rfl rfl rfl (by kernel_rfl) Ebbg.func3 (by kernel_rfl)
    (of_decide_eq_true (by kernel_rfl)) (by unfold Func.isWrapper; first | (rw [if_pos (by decide +kernel)]; kernel_rfl) | (rw [if_neg (by decide +kernel)]; exact ⟨rfl, rfl⟩))
    (fun os started H enc _ => lifted os started H enc)

/-- ████ THE STATEMENT ████ -/
theorem proved : Rows.FnIsKeywordExactlyTheFifteenKeywordsSaid :=
  over
end Go.Proofs.Yoebbw.fnIsKeywordExactlyTheFifteenKeywords
