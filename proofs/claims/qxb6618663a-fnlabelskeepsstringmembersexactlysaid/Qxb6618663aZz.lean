/- zzBytes of FnLabelsKeepsStringMembersExactly. -/
import Derived.Test.Qxb6618663aSmall
set_option linter.unusedVariables false
namespace Go.Proofs.Qxb6618663a
open Go.RowKit Go.Sort

set_option maxRecDepth 100000 in
set_option maxHeartbeats 4000000 in
theorem zz25_any (a1 a2 a3 a4 : Option Addr) (n1 c1 n2 c2 n3 c3 n4 c4 : Nat) (l1 l2 l3 : List ByteArray) (w : World) (hn1 : n1 ≤ maxLen) (hn2 : n2 ≤ maxLen) (hn3 : n3 ≤ maxLen) (hn4 : n4 ≤ maxLen) (hl1 : l1.length = n1) (hl2 : l2.length = n2) (hl3 : l3.length = n3)
    (hR1 : RowO Value.string w a1 l1) (hR2 : RowO Value.string w a2 l2) (hR3 : RowO Value.string w a3 l3) (hs1 : ∀ x ∈ l1, x.size ≤ maxLen) (hs2 : ∀ x ∈ l2, x.size ≤ maxLen) (hs3 : ∀ x ∈ l3, x.size ≤ maxLen) :
    Calls Try.prog 25 #[.slice a1 n1 c1, .slice a2 n2 c2, .slice a3 n3 c3, .slice a4 n4 c4] w fun e w' => ZZPost w (n1 ≤ 1048576 ∧ n2 ≤ 1048576 ∧ n3 ≤ 1048576 ∧ n4 ≤ 1048576 ∧ Sm l1 ∧ Sm l2 ∧ Sm l3) e w' := by
  unfold maxLen at hn1 hn2 hn3 hn4 hs1 hs2 hs3
  have HL1 : Hid _ := hl1
  have HS1 : Hid _ := hs1
  have HL2 : Hid _ := hl2
  have HS2 : Hid _ := hs2
  have HL3 : Hid _ := hl3
  have HS3 : Hid _ := hs3
  clear hl1 hs1 hl2 hs2 hl3 hs3
  by_cases hm1 : 1048576 < n1
  · go_enter Try.func25, Try.ntmps25
    go_wp2
    go_ret
    exact ⟨rfl, false, rfl, fun h => by cases h⟩
  · go_enter Try.func25, Try.ntmps25
    go_wp2
    go_loopw [10, 9] (fun i v wr => ∃ k r : Nat, k ≤ n1 ∧ i = .int .i64 k ∧ v = .int .i64 r ∧ r ≤ 1048576 ∧ w = wr ∧ Hid (Sm (l1.take k))) (fun i _ _ => n1 - (intOf i).toNat)
    case atStart => exact ⟨0, n1, by omega, rfl, by first | rfl | go_num, by omega, rfl, Sm.nil l1⟩
    case round =>
      obtain ⟨k1, r1, hk1, rfl, rfl, hr1, rfl, hq1⟩ := hrel
      by_cases hlt1 : k1 < n1
      · obtain ⟨b1, off1, x1, rfl, hwb1, q1, hx1⟩ := hR1.get (i := k1) (by rw [HL1.out]; exact hlt1)
        have s1 := HS1.out x1 (List.mem_of_getElem? hx1)
        have HX1 : Hid _ := hx1
        clear hx1
        by_cases h1 : 1048576 < x1.size
        · go_wp2
          go_ret
          exact ⟨rfl, false, rfl, fun h => by cases h⟩
        · by_cases h2 : 1048576 < r1 + x1.size
          · go_wp2
            go_ret
            exact ⟨rfl, false, rfl, fun h => by cases h⟩
          · go_wp2
            go_roundw
            case rel => exact ⟨k1 + 1, r1 + x1.size, by omega, by go_num, by first | rfl | go_num, by omega, by trivial, hq1.out.snoc HX1.out (by omega)⟩
            case measure => simp [intOf]; omega
      · have hsm1 : Hid (Sm l1) := hq1.out.all HL1.out hlt1
        clear hq1
        by_cases hm2 : 1048576 < n2
        · go_wp2
          go_ret
          exact ⟨rfl, false, rfl, fun h => by cases h⟩
        · by_cases hk2 : 1048576 < r1 + n2
          · go_wp2
            go_ret
            exact ⟨rfl, false, rfl, fun h => by cases h⟩
          · go_wp2
            go_loopw [11, 9] (fun i v wr => ∃ k r : Nat, k ≤ n2 ∧ i = .int .i64 k ∧ v = .int .i64 r ∧ r ≤ 1048576 ∧ w = wr ∧ Hid (Sm (l2.take k))) (fun i _ _ => n2 - (intOf i).toNat)
            case atStart => exact ⟨0, r1 + n2, by omega, rfl, by first | rfl | go_num, by omega, rfl, Sm.nil l2⟩
            case round =>
              obtain ⟨k2, r2, hk2, rfl, rfl, hr2, rfl, hq2⟩ := hrel
              by_cases hlt2 : k2 < n2
              · obtain ⟨b2, off2, x2, rfl, hwb2, q2, hx2⟩ := hR2.get (i := k2) (by rw [HL2.out]; exact hlt2)
                have s2 := HS2.out x2 (List.mem_of_getElem? hx2)
                have HX2 : Hid _ := hx2
                clear hx2
                by_cases h1 : 1048576 < x2.size
                · go_wp2
                  go_ret
                  exact ⟨rfl, false, rfl, fun h => by cases h⟩
                · by_cases h2 : 1048576 < r2 + x2.size
                  · go_wp2
                    go_ret
                    exact ⟨rfl, false, rfl, fun h => by cases h⟩
                  · go_wp2
                    go_roundw
                    case rel => exact ⟨k2 + 1, r2 + x2.size, by omega, by go_num, by first | rfl | go_num, by omega, by trivial, hq2.out.snoc HX2.out (by omega)⟩
                    case measure => simp [intOf]; omega
              · have hsm2 : Hid (Sm l2) := hq2.out.all HL2.out hlt2
                clear hq2
                by_cases hm3 : 1048576 < n3
                · go_wp2
                  go_ret
                  exact ⟨rfl, false, rfl, fun h => by cases h⟩
                · by_cases hk3 : 1048576 < r2 + n3
                  · go_wp2
                    go_ret
                    exact ⟨rfl, false, rfl, fun h => by cases h⟩
                  · go_wp2
                    go_loopw [12, 9] (fun i v wr => ∃ k r : Nat, k ≤ n3 ∧ i = .int .i64 k ∧ v = .int .i64 r ∧ r ≤ 1048576 ∧ w = wr ∧ Hid (Sm (l3.take k))) (fun i _ _ => n3 - (intOf i).toNat)
                    case atStart => exact ⟨0, r2 + n3, by omega, rfl, by first | rfl | go_num, by omega, rfl, Sm.nil l3⟩
                    case round =>
                      obtain ⟨k3, r3, hk3, rfl, rfl, hr3, rfl, hq3⟩ := hrel
                      by_cases hlt3 : k3 < n3
                      · obtain ⟨b3, off3, x3, rfl, hwb3, q3, hx3⟩ := hR3.get (i := k3) (by rw [HL3.out]; exact hlt3)
                        have s3 := HS3.out x3 (List.mem_of_getElem? hx3)
                        have HX3 : Hid _ := hx3
                        clear hx3
                        by_cases h1 : 1048576 < x3.size
                        · go_wp2
                          go_ret
                          exact ⟨rfl, false, rfl, fun h => by cases h⟩
                        · by_cases h2 : 1048576 < r3 + x3.size
                          · go_wp2
                            go_ret
                            exact ⟨rfl, false, rfl, fun h => by cases h⟩
                          · go_wp2
                            go_roundw
                            case rel => exact ⟨k3 + 1, r3 + x3.size, by omega, by go_num, by first | rfl | go_num, by omega, by trivial, hq3.out.snoc HX3.out (by omega)⟩
                            case measure => simp [intOf]; omega
                      · have hsm3 : Hid (Sm l3) := hq3.out.all HL3.out hlt3
                        clear hq3
                        by_cases hm4 : 1048576 < n4
                        · go_wp2
                          go_ret
                          exact ⟨rfl, false, rfl, fun h => by cases h⟩
                        · by_cases hk4 : 1048576 < r3 + n4
                          · go_wp2
                            go_ret
                            exact ⟨rfl, false, rfl, fun h => by cases h⟩
                          · go_wp2
                            go_ret
                            exact ⟨rfl, true, rfl, fun _ => ⟨by omega, by omega, by omega, by omega, hsm1.out, hsm2.out, hsm3.out⟩⟩
end Go.Proofs.Qxb6618663a
