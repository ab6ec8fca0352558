import Derived.Test.Qxb6618031aIdx
set_option linter.unusedVariables false
namespace Go.Proofs.Qxb6618031a
open Go.RowKit Go.Sort

def proj3 (x : W3) : Nat → Int
  | 0 => x.1
  | 1 => x.2.1
  | _ => x.2.2
def flat3 (f : Nat → W3) (L : Nat) : List Value := (List.range (L * 3)).map fun j => .int .u64 (proj3 (f (j / 3)) (j % 3))
theorem flat3_length (f : Nat → W3) (L : Nat) : (flat3 f L).length = L * 3 := by simp [flat3]
theorem flat3_get (f : Nat → W3) (L j : Nat) (h : j < L * 3) : (flat3 f L)[j]? = some (.int .u64 (proj3 (f (j / 3)) (j % 3))) := by
  simp [flat3, h]
theorem flat3_one (f : Nat → W3) (L : Nat) : ∀ u ∈ flat3 f L, u.oneCell' = true := by
  intro u hu
  simp only [flat3, List.mem_map] at hu
  obtain ⟨j, _, rfl⟩ := hu
  rfl
theorem add_zero_off (b j : Nat) : (⟨b, 0, none⟩ : Addr).add j = ⟨b, j, none⟩ := by
  unfold Addr.add
  by_cases h : j = 0
  · subst h; rfl
  · rw [if_neg h]; simp
theorem three_parts (j : Nat) : j % 3 = 0 ∨ j % 3 = 1 ∨ j % 3 = 2 := by omega
theorem Buf3.any {w : World} {b n : Nat} {f : Nat → W3} (h : Buf3 w b n f) {j : Nat} (hj : j < n * 3) : w.cell? ⟨b, j, none⟩ = some (.int .u64 (proj3 (f (j / 3)) (j % 3))) := by
  obtain ⟨c0, c1, c2⟩ := h.cell (i := j / 3) (by omega)
  rcases three_parts j with e | e | e
  · rw [e]; have : j / 3 * 3 = j := by omega
    rw [this] at c0; exact c0
  · rw [e]; have : j / 3 * 3 + 1 = j := by omega
    rw [this] at c1; exact c1
  · rw [e]; have : j / 3 * 3 + 2 = j := by omega
    rw [this] at c2; exact c2
/-- What a slice of the call's own reads as: a row. -/
theorem own_row {w : World} {base L : Nat} {v : Value} {f : Nat → W3} (h : w.ownsRow base 30 3 v L (flat3 f L)) (hL : 0 < L) :
    ∃ g cap, v = .slice (some ⟨g, 0, none⟩) L cap ∧ base ≤ g ∧ Row3 w g 0 L f := by
  obtain ⟨_, h2⟩ := h
  rcases h2 with ⟨_, h0⟩ | ⟨g, cap, cur, rfl, hg, hh, hc, _, hsz, hx⟩
  · omega
  · refine ⟨g, cap, rfl, hg, (Array.getElem?_eq_some_iff.1 hh).1, fun i hi => ?_⟩
    have key : ∀ r, r < 3 → cur[i * 3 + r]? = some (.int .u64 (proj3 (f i) r)) := by
      intro r hr
      have h1 : (flat3 f L)[i * 3 + r]? = some (.int .u64 (proj3 (f i) r)) := by
        rw [flat3_get _ _ _ (by omega)]
        have e1 : (i * 3 + r) / 3 = i := by omega
        have e2 : (i * 3 + r) % 3 = r := by omega
        rw [e1, e2]
      rw [← hx, List.getElem?_take, if_pos (by omega)] at h1
      rw [← h1]; simp
    have k0 := key 0 (by omega)
    have k1 := key 1 (by omega)
    have k2 := key 2 (by omega)
    simp only [World.cell?, hh, Nat.zero_add]
    exact ⟨k0, k1, k2⟩

set_option maxHeartbeats 1000000 in
theorem clone_any (b m L cap : Nat) (f : Nat → W3) (w : World) (hm : m ≤ 1000000) (hL0 : 0 < L) (hL : L ≤ m) (hR : Buf3 w b m f) :
    Calls Try.prog 32 #[.slice (some ⟨b, 0, none⟩) L cap] w
      fun e w' => ∃ g cap', e = .returned (.slice (some ⟨g, 0, none⟩) L cap') ∧ Below w.heap.size w w' ∧ w.heap.size ≤ g ∧ Row3 w' g 0 L f := by
  obtain ⟨i0, hi, hz, hs, hb⟩ := info_parts info30
  have hlt := hR.lt
  have hnews : ∀ j u, (flat3 f L)[j]? = some u → (w.alloc (.cells #[] 30)).cell? ((⟨b, 0, none⟩ : Addr).add j) = some u := by
    intro j u hu
    have hj : j < L * 3 := by
      have := (List.getElem?_eq_some_iff.1 hu).1
      rwa [flat3_length] at this
    rw [flat3_get _ _ _ hj] at hu
    rw [← hu]
    have e : (w.alloc (.cells #[] 30)).cell? ⟨b, j, none⟩ = w.cell? ⟨b, j, none⟩ := World.cell?_alloc_lt w _ ⟨b, j, none⟩ hlt
    rw [add_zero_off, e]
    exact hR.any (by omega)
  have hown : (w.alloc (.cells #[] 30)).ownsRow w.heap.size 30 3 (.slice (some ⟨w.heap.size, 0, none⟩) 0 0) 0 [] :=
    ⟨by simp, Or.inr ⟨w.heap.size, 0, #[], rfl, Nat.le_refl _, by show (w.heap.push _)[w.heap.size]? = _; simp, Nat.le_refl _, by simp [maxLen], by simp, by simp⟩⟩
  have hnil := fun w => Lib.run_eql_slice_nil (P := Try.prog) w 25 30 (some ⟨b, 0, none⟩) L cap 0 0 Try.underlying25
  go_enter Try.func32, Try.ntmps32
  go_wp2_with (at_builtin; refine wpList_append_own _ rfl _ _ 25 rfl w.heap.size 30 i0 _ 3 24 Try.underlying25 hi hz hs hb rfl (by decide) _ _ _ rfl hown ⟨b, 0, none⟩ L cap (flat3 f L) rfl (flat3_length f L) hnews (flat3_one f L) (by unfold maxLen; omega) (by omega) (by simp) ?_)
  intro v' w1 hown1 hg _
  have HO : Hid _ := hown1
  clear hown1
  obtain ⟨g, cap', hv, hgb, hrow⟩ := own_row HO.out hL0
  subst hv
  go_wp2
  go_ret
  refine ⟨g, cap', rfl, ?_, hgb, hrow⟩
  exact ((Below.refl _ w).alloc (Nat.le_refl _) _).grown hg (by simp) (fun k hk => by cases hk; exact Nat.le_refl _)

end Go.Proofs.Qxb6618031a
