import Derived.Test.Qxb6618031aLeft
set_option linter.unusedVariables false
namespace Go.Proofs.Qxb6618031a
open Go.RowKit Go.Sort

set_option maxHeartbeats 400000 in
theorem bytes13_ok (ao : Option Addr) (n cap : Nat) (i gi keep : Int) (w : World) (hn : n ≤ 1048576) :
    Calls Try.prog 13 #[.slice ao n cap, .int .i64 i, .int .i64 gi, .int .i64 keep] w fun e w' => e = .returned (.bool true) ∧ w' = w := by
  go_enter Try.func13, Try.ntmps13
  go_wp2
  go_ret
  exact ⟨rfl, rfl⟩
set_option maxHeartbeats 400000 in
theorem bytes13_no (ao : Option Addr) (n cap : Nat) (i gi keep : Int) (w : World) (hn : 1048576 < n) :
    Calls Try.prog 13 #[.slice ao n cap, .int .i64 i, .int .i64 gi, .int .i64 keep] w fun e w' => e = .returned (.bool false) ∧ w' = w := by
  go_enter Try.func13, Try.ntmps13
  go_wp2
  go_ret
  exact ⟨rfl, rfl⟩

set_option maxRecDepth 100000 in
set_option maxHeartbeats 4000000 in
theorem fn4_early (ao : Option Addr) (n cap : Nat) (i gi keep : Int) (w : World) (hn : n ≤ 9223372036854775807) (h : 32768 < n ∨ n < 2 ∨ i < 0 ∨ (n : Int) ≤ i ∨ gi < 0 ∨ (n : Int) ≤ gi ∨ gi = i ∨ keep < 1) :
    Calls Try.prog 4 #[.slice ao n cap, .int .i64 i, .int .i64 gi, .int .i64 keep] w fun e w' => e = .returned (.bool true) ∧ w' = w := by
  by_cases h1 : 1048576 < n
  · go_enter Try.func4, Try.ntmps4
    go_wp2_with (go_at_call 13; refine (bytes13_no _ _ _ _ _ _ _ h1).mono ?_; rintro e w' ⟨rfl, rfl⟩)
    go_ret
    exact ⟨rfl, rfl⟩
  · have h1' : n ≤ 1048576 := by omega
    by_cases h2 : 32768 < n
    · go_enter Try.func4, Try.ntmps4
      go_wp2_with (go_at_call 13; refine (bytes13_ok _ _ _ _ _ _ _ h1').mono ?_; rintro e w' ⟨rfl, rfl⟩)
      go_ret
      exact ⟨rfl, rfl⟩
    · clear h1
      by_cases h3 : n < 2
      · go_enter Try.func4, Try.ntmps4
        go_wp2_with (go_at_call 13; refine (bytes13_ok _ _ _ _ _ _ _ h1').mono ?_; rintro e w' ⟨rfl, rfl⟩)
        go_ret
        exact ⟨rfl, rfl⟩
      · by_cases h4 : i < 0
        · go_enter Try.func4, Try.ntmps4
          go_wp2_with (go_at_call 13; refine (bytes13_ok _ _ _ _ _ _ _ h1').mono ?_; rintro e w' ⟨rfl, rfl⟩)
          go_ret
          exact ⟨rfl, rfl⟩
        · by_cases h5 : (n : Int) ≤ i
          · go_enter Try.func4, Try.ntmps4
            go_wp2_with (go_at_call 13; refine (bytes13_ok _ _ _ _ _ _ _ h1').mono ?_; rintro e w' ⟨rfl, rfl⟩)
            go_ret
            exact ⟨rfl, rfl⟩
          · by_cases h6 : gi < 0
            · go_enter Try.func4, Try.ntmps4
              go_wp2_with (go_at_call 13; refine (bytes13_ok _ _ _ _ _ _ _ h1').mono ?_; rintro e w' ⟨rfl, rfl⟩)
              go_ret
              exact ⟨rfl, rfl⟩
            · by_cases h7 : (n : Int) ≤ gi
              · go_enter Try.func4, Try.ntmps4
                go_wp2_with (go_at_call 13; refine (bytes13_ok _ _ _ _ _ _ _ h1').mono ?_; rintro e w' ⟨rfl, rfl⟩)
                go_ret
                exact ⟨rfl, rfl⟩
              · by_cases h8 : gi = i
                · subst h8
                  go_enter Try.func4, Try.ntmps4
                  go_wp2_with (go_at_call 13; refine (bytes13_ok _ _ _ _ _ _ _ h1').mono ?_; rintro e w' ⟨rfl, rfl⟩)
                  go_ret
                  exact ⟨rfl, rfl⟩
                · have h8' : (gi == i) = false := by simpa using h8
                  have h9 : keep < 1 := by omega
                  clear h
                  go_enter Try.func4, Try.ntmps4
                  go_wp2_with (go_at_call 13; refine (bytes13_ok _ _ _ _ _ _ _ h1').mono ?_; rintro e w' ⟨rfl, rfl⟩)
                  go_ret
                  exact ⟨rfl, rfl⟩

end Go.Proofs.Qxb6618031a
