import Derived.Test.Qxb6618031aLaw3
set_option linter.unusedVariables false
namespace Go.Proofs.Qxb6618031a
open Go.RowKit Go.Sort

set_option maxHeartbeats 400000 in
theorem bytes6_ok (ao : Option Addr) (n cap : Nat) (i keep : Int) (w : World) (hn : n ≤ 1048576) :
    Calls Try.prog 6 #[.slice ao n cap, .int .i64 i, .int .i64 keep] w fun e w' => e = .returned (.bool true) ∧ w' = w := by
  go_enter Try.func6, Try.ntmps6
  go_wp2
  go_ret
  exact ⟨rfl, rfl⟩
set_option maxHeartbeats 400000 in
theorem bytes6_no (ao : Option Addr) (n cap : Nat) (i keep : Int) (w : World) (hn : 1048576 < n) :
    Calls Try.prog 6 #[.slice ao n cap, .int .i64 i, .int .i64 keep] w fun e w' => e = .returned (.bool false) ∧ w' = w := by
  go_enter Try.func6, Try.ntmps6
  go_wp2
  go_ret
  exact ⟨rfl, rfl⟩

set_option maxRecDepth 100000 in
set_option maxHeartbeats 4000000 in
theorem fn3_early (ao : Option Addr) (n cap : Nat) (i keep : Int) (w : World) (hn : n ≤ 9223372036854775807) (h : 4096 < n ∨ n < 1 ∨ i < 0 ∨ (n : Int) ≤ i ∨ keep < 0) :
    Calls Try.prog 3 #[.slice ao n cap, .int .i64 i, .int .i64 keep] w fun e w' => e = .returned (.bool true) ∧ w' = w := by
  by_cases h1 : 1048576 < n
  · go_enter Try.func3, Try.ntmps3
    go_wp2_with (go_at_call 6; refine (bytes6_no _ _ _ _ _ _ h1).mono ?_; rintro e w' ⟨rfl, rfl⟩)
    go_ret
    exact ⟨rfl, rfl⟩
  · have h1' : n ≤ 1048576 := by omega
    by_cases h2 : 4096 < n
    · go_enter Try.func3, Try.ntmps3
      go_wp2_with (go_at_call 6; refine (bytes6_ok _ _ _ _ _ _ h1').mono ?_; rintro e w' ⟨rfl, rfl⟩)
      go_ret
      exact ⟨rfl, rfl⟩
    · clear h1
      by_cases h3 : n < 1
      · go_enter Try.func3, Try.ntmps3
        go_wp2_with (go_at_call 6; refine (bytes6_ok _ _ _ _ _ _ h1').mono ?_; rintro e w' ⟨rfl, rfl⟩)
        go_ret
        exact ⟨rfl, rfl⟩
      · by_cases h4 : i < 0
        · go_enter Try.func3, Try.ntmps3
          go_wp2_with (go_at_call 6; refine (bytes6_ok _ _ _ _ _ _ h1').mono ?_; rintro e w' ⟨rfl, rfl⟩)
          go_ret
          exact ⟨rfl, rfl⟩
        · by_cases h5 : (n : Int) ≤ i
          · go_enter Try.func3, Try.ntmps3
            go_wp2_with (go_at_call 6; refine (bytes6_ok _ _ _ _ _ _ h1').mono ?_; rintro e w' ⟨rfl, rfl⟩)
            go_ret
            exact ⟨rfl, rfl⟩
          · have h9 : keep < 0 := by omega
            clear h
            go_enter Try.func3, Try.ntmps3
            go_wp2_with (go_at_call 6; refine (bytes6_ok _ _ _ _ _ _ h1').mono ?_; rintro e w' ⟨rfl, rfl⟩)
            go_ret
            exact ⟨rfl, rfl⟩

end Go.Proofs.Qxb6618031a
