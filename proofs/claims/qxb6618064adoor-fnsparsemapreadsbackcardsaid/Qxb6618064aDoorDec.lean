/- decimal numerals: plain; readDecimal. -/
import Derived.Test.Qxb6618064aDoorCmp
set_option linter.unusedVariables false
namespace Go.Proofs.Qxb6618064aDoor
open Go.RowKit Go.Sort

def dval (l : List UInt8) : Nat := l.foldl (fun a b => a * 10 + (b.toNat - 48)) 0
theorem dval_snoc (l : List UInt8) (b : UInt8) : dval (l ++ [b]) = dval l * 10 + (b.toNat - 48) := by simp [dval, List.foldl_append]
theorem dval_app (l : List UInt8) : ∀ r : List UInt8, dval l ≤ dval (l ++ r) := by
  intro r
  induction r generalizing l with
  | nil => simp
  | cons b r ih =>
    have h1 := ih (l ++ [b])
    rw [List.append_assoc] at h1
    have h2 := dval_snoc l b
    simp only [List.cons_append, List.nil_append] at h1
    omega
theorem ofn {r : Nat} (h : r < 10) : (UInt8.ofNat (48 + r)).toNat = 48 + r := by
  have := dig_nat h
  omega
/-- what holds of the digits of a number -/
structure Dec (u : Nat) : Prop where
  val : dval (Lib.decDigits u) = u
  rng : ∀ b ∈ Lib.decDigits u, 48 ≤ b.toNat ∧ b.toNat ≤ 57
  ne : Lib.decDigits u ≠ []
  head : 1 ≤ u → ∀ b, (Lib.decDigits u)[0]? = some b → b.toNat ≠ 48
theorem dec_all : ∀ n u : Nat, u < n → Dec u := by
  intro n
  induction n with
  | zero => intro u h; omega
  | succ n ih =>
    intro u hu
    by_cases h : u < 10
    · have e := dec_small h
      have o := ofn h
      refine ⟨?_, ?_, ?_, ?_⟩
      · rw [e]
        show 0 * 10 + ((UInt8.ofNat (48 + u)).toNat - 48) = u
        rw [o]
        omega
      · intro b hb
        rw [e] at hb
        rw [List.mem_singleton.1 hb, o]
        omega
      · rw [e]; simp
      · intro h1 b hb
        rw [e, List.getElem?_cons_zero] at hb
        injection hb with hb
        rw [← hb, o]
        omega
    · have e := dec_big h
      have d := ih (u / 10) (by omega)
      have o := ofn (r := u % 10) (Nat.mod_lt _ (by omega))
      refine ⟨?_, ?_, ?_, ?_⟩
      · rw [e, dval_snoc, d.val, o]
        omega
      · intro b hb
        rw [e] at hb
        rcases List.mem_append.1 hb with hb | hb
        · exact d.rng b hb
        · rw [List.mem_singleton.1 hb, o]
          omega
      · rw [e]; simp
      · intro h1 b hb
        rw [e, List.getElem?_append_left (List.length_pos_iff.2 d.ne)] at hb
        exact d.head (by omega) b hb
theorem dec_is (u : Nat) : Dec u := dec_all (u + 1) u (by omega)
theorem dec_len19 : ∀ k u : Nat, 1 ≤ k → u < 10 ^ k → (Lib.decDigits u).length ≤ k := by
  intro k
  induction k with
  | zero => intro u h; omega
  | succ k ih =>
    intro u _ hu
    by_cases h : u < 10
    · rw [dec_small h]; simp
    · rw [dec_big h, List.length_append, List.length_singleton]
      have hk : 1 ≤ k := by
        rcases Nat.eq_zero_or_pos k with h0 | h0
        · subst h0; simp at hu; omega
        · exact h0
      have := ih (u / 10) hk (by rw [Nat.pow_succ] at hu; omega)
      omega

/-- the digits D of u lie from st on, a newline behind them -/
structure Digs (w : World) (g st : Nat) (u : Nat) : Prop where
  lt : g < w.heap.size
  dig : ∀ j b, (Lib.decDigits u)[j]? = some b → w.cell? ⟨g, st + j, none⟩ = some (.int .u8 b.toNat)
  nl : w.cell? ⟨g, st + (Lib.decDigits u).length, none⟩ = some (.int .u8 10)
theorem beq_no {a b : Int} (h : a ≠ b) : (a == b) = false := by simp [h]

set_option maxRecDepth 100000 in
set_option maxHeartbeats 1000000 in
theorem rd_neg (g n cp pos st u e L : Nat) (w : World) (hn : n ≤ 100000000) (hD : Digs w g st u) (hL : (Lib.decDigits u).length = L) (he : e ≤ n) (hfit : st + L + 1 ≤ e) (hu : 1 ≤ u) (hu2 : u ≤ 9223372036854775808) (hs : w.cell? ⟨g, pos, none⟩ = some (.int .u8 45)) (hst : st = pos + 1) :
    Calls Tryd.prog 26 #[.slice (some ⟨g, 0, none⟩) n cp, .int .i64 pos, .int .i64 e] w fun r w' => r = .returned (.tuple #[(.int .i64 (-(u : Int))), .int .i64 ((st + L + 1 : Nat) : Int), .bool true]) ∧ w' = w := by
  have D := dec_is u
  have hlen : L ≤ 19 := by rw [← hL]; exact dec_len19 19 u (by omega) (by omega)
  have hlp : 0 < L := by rw [← hL]; exact List.length_pos_iff.2 D.ne
  have HLn : Hid _ := hL
  have HDg : Hid (Digs w g st u) := hD
  have HD : Hid (Dec u) := D
  have hgl := hD.lt
  have hpe : (pos : Int) < (e : Int) := by omega
  have hpe2 : pos < e := by omega
  have hpn : (pos : Int) < (n : Int) := by omega
  have hpn2 : pos < n := by omega
  have HST : Hid _ := hst
  have hst1 : (pos : Int) + 1 = (st : Int) := by omega
  clear hst
  clear hL hD D
  go_enter Tryd.func26, Tryd.ntmps26
  go_wp2
  go_loopw [1, 11] (fun v1 v11 W => W = w ∧ ∃ j p m : Nat, j ≤ L ∧ v1 = .int .i64 p ∧ v11 = .int .u64 m ∧ Hid (p = st + j) ∧ Hid (m = dval ((Lib.decDigits u).take j))) (fun v1 _ _ => st + L - (intOf v1).toNat)
  case atStart => exact ⟨rfl, 0, st, 0, by omega, rfl, rfl, rfl, rfl⟩
  case round =>
    obtain ⟨rfl, j, p, m, hj, rfl, rfl, hp, hm⟩ := hrel
    have hpj := hp.out
    have hpst : (p : Int) - (st : Int) = j := by omega
    have hpe3 : (p : Int) < (e : Int) := by omega
    have hpe4 : p < e := by omega
    have hpn3 : (p : Int) < (n : Int) := by omega
    have hpn4 : p < n := by omega
    by_cases hjl : j < L
    · obtain ⟨b, hb⟩ : ∃ b, (Lib.decDigits u)[j]? = some b := ⟨(Lib.decDigits u)[j]'(by rw [HLn.out]; exact hjl), List.getElem?_eq_getElem _⟩
      have c1 := HDg.out.dig j b hb
      rw [← hpj] at c1
      have r1 := HD.out.rng b (List.mem_of_getElem? hb)
      have hmu : dval ((Lib.decDigits u).take (j + 1)) = m * 10 + (b.toNat - 48) := by
        rw [List.take_add_one, hb]
        exact (dval_snoc _ b).trans (by rw [hm.out])
      have hle : dval ((Lib.decDigits u).take (j + 1)) ≤ u := by
        have h1 := dval_app ((Lib.decDigits u).take (j + 1)) ((Lib.decDigits u).drop (j + 1))
        rw [List.take_append_drop, HD.out.val] at h1
        exact h1
      generalize hbn : b.toNat = bn at *
      obtain ⟨d, hd⟩ : ∃ d, d = bn - 48 := ⟨_, rfl⟩
      rw [← hd] at hmu
      have hmd : m * 10 + d ≤ 9223372036854775808 := by omega
      have e1 : (bn : Int) - 48 = d := by omega
      have hd9 : d ≤ 9 := by omega
      have q1 : ((bn : Int) == 10) = false := beq_no (by omega)
      have q2 : ¬ ((bn : Int) = 10) := by omega
      have q3 : ¬ ((bn : Int) < 48) := by omega
      have q4 : ¬ ((57 : Int) < (bn : Int)) := by omega
      have q5 : ¬ ((19 : Int) ≤ (j : Int)) := by omega
      have HMU : Hid _ := hmu
      clear hb hbn hd hmu hle hpj
      go_wp2
      go_roundw
      case rel =>
        refine ⟨trivial, j + 1, p + 1, m * 10 + d, by omega, by go_num, ?_, ?_, ?_⟩
        · first | rfl | (congr 1; omega)
        · show _ = _
          have := hp.out
          omega
        · exact HMU.out.symm
      case measure =>
        have hpo := hp.out
        simp [intOf]
        omega
    · obtain rfl : L = j := by omega
      have c1 := HDg.out.nl
      rw [HLn.out, ← hpj] at c1
      have hmu : m = u := by
        rw [hm.out, ← HLn.out, List.take_length]
        exact HD.out.val
      subst hmu
      have hne : ((p : Int) == (st : Int)) = false := beq_no (by omega)
      clear hpj
      obtain ⟨b0, hb0⟩ : ∃ b0, (Lib.decDigits m)[0]? = some b0 := ⟨(Lib.decDigits m)[0]'(List.length_pos_iff.2 HD.out.ne), List.getElem?_eq_getElem _⟩
      have c0 := HDg.out.dig 0 b0 hb0
      rw [Nat.add_zero] at c0
      have n48 := HD.out.head hu b0 hb0
      generalize b0.toNat = bz at *
      have n48a : ((bz : Int) == 48) = false := beq_no (by omega)
      have hm0 : ((m : Int) == 0) = false := beq_no (by omega)
      have hmt : ¬ ((9223372036854775808 : Int) < (m : Int)) := by omega
      have hsn : (st : Int) < (n : Int) := by omega
      have hsn2 : st < n := by omega
      have hpp : (st : Int) + (L : Int) + 1 = (p : Int) + 1 := by have := hp.out; omega
      have HPP : Hid _ := hpp
      clear hpp hb0 n48
      by_cases hmx : m = 9223372036854775808
      · have hme : ((m : Int) == 9223372036854775808) = true := by rw [hmx]; rfl
        have HMX : Hid _ := hmx
        clear hmx
        go_wp2
        refine bodyPost_ret (v := .tuple #[.int .i64 (-9223372036854775808), .int .i64 ((p : Int) + 1), .bool true]) (by simp [results, Tryd.results26, go_sem]) rfl ⟨?_, rfl⟩
        rw [HPP.out, HMX.out]
        rfl
      · have hme : ((m : Int) == 9223372036854775808) = false := beq_no (by omega)
        have hmlt : m < 9223372036854775808 := by omega
        clear hmx
        go_wp2
        refine bodyPost_ret (v := .tuple #[.int .i64 (-(m : Int)), .int .i64 ((p : Int) + 1), .bool true]) (by simp [results, Tryd.results26, go_sem]) rfl ⟨?_, rfl⟩
        rw [HPP.out]

set_option maxRecDepth 100000 in
set_option maxHeartbeats 1000000 in
theorem rd_pos (g n cp pos st u e L : Nat) (w : World) (hn : n ≤ 100000000) (hD : Digs w g st u) (hL : (Lib.decDigits u).length = L) (he : e ≤ n) (hfit : st + L + 1 ≤ e) (hu2 : u ≤ 9223372036854775807) (hst : st = pos) :
    Calls Tryd.prog 26 #[.slice (some ⟨g, 0, none⟩) n cp, .int .i64 pos, .int .i64 e] w fun r w' => r = .returned (.tuple #[(.int .i64 (u : Int)), .int .i64 ((st + L + 1 : Nat) : Int), .bool true]) ∧ w' = w := by
  have D := dec_is u
  have hlen : L ≤ 19 := by rw [← hL]; exact dec_len19 19 u (by omega) (by omega)
  have hlp : 0 < L := by rw [← hL]; exact List.length_pos_iff.2 D.ne
  have HLn : Hid _ := hL
  have HDg : Hid (Digs w g st u) := hD
  have HD : Hid (Dec u) := D
  have hgl := hD.lt
  have hpe : (pos : Int) < (e : Int) := by omega
  have hpe2 : pos < e := by omega
  have hpn : (pos : Int) < (n : Int) := by omega
  have hpn2 : pos < n := by omega
  subst hst
  obtain ⟨b0, hb0⟩ : ∃ b0, (Lib.decDigits u)[0]? = some b0 := ⟨(Lib.decDigits u)[0]'(List.length_pos_iff.2 D.ne), List.getElem?_eq_getElem _⟩
  have c0 := hD.dig 0 b0 hb0
  have r0 := D.rng b0 (List.mem_of_getElem? hb0)
  rw [Nat.add_zero] at c0
  have n45 : ((b0.toNat : Int) == 45) = false := beq_no (by omega)
  have n45b : ¬ ((b0.toNat : Int) = 45) := by omega
  have HB0 : Hid (1 ≤ u → b0.toNat ≠ 48) := fun h => D.head h b0 hb0
  clear hb0
  clear hL hD D
  go_enter Tryd.func26, Tryd.ntmps26
  go_wp2
  go_loopw [1, 11] (fun v1 v11 W => W = w ∧ ∃ j p m : Nat, j ≤ L ∧ v1 = .int .i64 p ∧ v11 = .int .u64 m ∧ Hid (p = st + j) ∧ Hid (m = dval ((Lib.decDigits u).take j))) (fun v1 _ _ => st + L - (intOf v1).toNat)
  case atStart => exact ⟨rfl, 0, st, 0, by omega, rfl, rfl, rfl, rfl⟩
  case round =>
    obtain ⟨rfl, j, p, m, hj, rfl, rfl, hp, hm⟩ := hrel
    have hpj := hp.out
    have hpst : (p : Int) - (st : Int) = j := by omega
    have hpe3 : (p : Int) < (e : Int) := by omega
    have hpe4 : p < e := by omega
    have hpn3 : (p : Int) < (n : Int) := by omega
    have hpn4 : p < n := by omega
    by_cases hjl : j < L
    · obtain ⟨b, hb⟩ : ∃ b, (Lib.decDigits u)[j]? = some b := ⟨(Lib.decDigits u)[j]'(by rw [HLn.out]; exact hjl), List.getElem?_eq_getElem _⟩
      have c1 := HDg.out.dig j b hb
      rw [← hpj] at c1
      have r1 := HD.out.rng b (List.mem_of_getElem? hb)
      have hmu : dval ((Lib.decDigits u).take (j + 1)) = m * 10 + (b.toNat - 48) := by
        rw [List.take_add_one, hb]
        exact (dval_snoc _ b).trans (by rw [hm.out])
      have hle : dval ((Lib.decDigits u).take (j + 1)) ≤ u := by
        have h1 := dval_app ((Lib.decDigits u).take (j + 1)) ((Lib.decDigits u).drop (j + 1))
        rw [List.take_append_drop, HD.out.val] at h1
        exact h1
      generalize hbn : b.toNat = bn at *
      obtain ⟨d, hd⟩ : ∃ d, d = bn - 48 := ⟨_, rfl⟩
      rw [← hd] at hmu
      have hmd : m * 10 + d ≤ 9223372036854775808 := by omega
      have e1 : (bn : Int) - 48 = d := by omega
      have hd9 : d ≤ 9 := by omega
      have q1 : ((bn : Int) == 10) = false := beq_no (by omega)
      have q2 : ¬ ((bn : Int) = 10) := by omega
      have q3 : ¬ ((bn : Int) < 48) := by omega
      have q4 : ¬ ((57 : Int) < (bn : Int)) := by omega
      have q5 : ¬ ((19 : Int) ≤ (j : Int)) := by omega
      have HMU : Hid _ := hmu
      clear hb hbn hd hmu hle hpj
      go_wp2
      go_roundw
      case rel =>
        refine ⟨trivial, j + 1, p + 1, m * 10 + d, by omega, by go_num, ?_, ?_, ?_⟩
        · first | rfl | (congr 1; omega)
        · show _ = _
          have := hp.out
          omega
        · exact HMU.out.symm
      case measure =>
        have hpo := hp.out
        simp [intOf]
        omega
    · obtain rfl : L = j := by omega
      have c1 := HDg.out.nl
      rw [HLn.out, ← hpj] at c1
      have hmu : m = u := by
        rw [hm.out, ← HLn.out, List.take_length]
        exact HD.out.val
      subst hmu
      have hne : ((p : Int) == (st : Int)) = false := beq_no (by omega)
      clear hpj
      have hmt : ¬ ((9223372036854775808 : Int) ≤ (m : Int)) := by omega
      have hpp : (st : Int) + (L : Int) + 1 = (p : Int) + 1 := by have := hp.out; omega
      have HPP : Hid _ := hpp
      clear hpp
      by_cases hm0 : m = 0
      · have hL1 : L = 1 := by rw [← HLn.out, hm0, dec_small (by omega)]; rfl
        have hg1 : ¬ ((1 : Int) < (L : Int)) := by omega
        have hlb : (L : Int) ≤ 1 := by omega
        generalize b0.toNat = bz at *
        by_cases h48 : bz = 48
        · have h48a : ((bz : Int) == 48) = true := by rw [h48]; rfl
          clear h48 hm0 hL1
          go_wp2
          refine bodyPost_ret (v := .tuple #[.int .i64 (m : Int), .int .i64 ((p : Int) + 1), .bool true]) (by simp [results, Tryd.results26, go_sem]) rfl ⟨?_, rfl⟩
          rw [HPP.out]
        · have h48a : ((bz : Int) == 48) = false := beq_no (by omega)
          clear h48 hm0 hL1
          go_wp2
          refine bodyPost_ret (v := .tuple #[.int .i64 (m : Int), .int .i64 ((p : Int) + 1), .bool true]) (by simp [results, Tryd.results26, go_sem]) rfl ⟨?_, rfl⟩
          rw [HPP.out]
      · have n48 := HB0.out (by omega)
        generalize b0.toNat = bz at *
        have h48a : ((bz : Int) == 48) = false := beq_no (by omega)
        clear hm0 n48
        go_wp2
        refine bodyPost_ret (v := .tuple #[.int .i64 (m : Int), .int .i64 ((p : Int) + 1), .bool true]) (by simp [results, Tryd.results26, go_sem]) rfl ⟨?_, rfl⟩
        rw [HPP.out]
end Go.Proofs.Qxb6618064aDoor
