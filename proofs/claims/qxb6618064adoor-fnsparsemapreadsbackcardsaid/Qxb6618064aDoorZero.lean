/- append(b, make([]byte, m)...): zeros behind a row of bytes of the call's own. -/
import Derived.Test.Qxb6618064aDoorInt
import Derived.Lib.AppendZeros
import Derived.Deep.AppendLies
set_option linter.unusedVariables false
namespace Go.Proofs.Qxb6618064aDoor
open Go.RowKit Go.Sort

theorem info5 : (Tryd.prog.info? 5).map (fun i => (i.zero, i.size, i.bytes)) = some (some (.int .u8 0), 1, 1) := by kernel_rfl
theorem zeros_list (m : Nat) : (Builtin.zeroCells (Value.int .u8 0).cells m).toList = List.replicate m (.int .u8 0) := by
  refine List.ext_getElem (by simp [Builtin.zeroCells, Value.cells]) fun i h1 h2 => ?_
  simp [Builtin.zeroCells, Value.cells, Nat.mod_one]
theorem zeros_one (m : Nat) : ∀ u ∈ List.replicate m (Value.int .u8 0), u.oneCell' = true := by
  intro u hu
  rw [(List.mem_replicate.1 hu).2]
  rfl
theorem run_zeros (w : World) (B g n cap m : Nat) (xs : List Value) (ty : TypeId) (hown : w.ownsRow B 5 1 (.slice (some ⟨g, 0, none⟩) n cap) n xs) (hm : m ≤ 100000) (hn : n ≤ 1000000000) (hB : B ≤ w.heap.size) :
    ∃ g' cap' w', (Builtin.append_ #[25, 3] ty #[.slice (some ⟨g, 0, none⟩) n cap, .int .i64 m]).run Tryd.prog w = .ok (.slice (some ⟨g', 0, none⟩) (n + m) cap') w' ∧ w'.ownsRow B 5 1 (.slice (some ⟨g', 0, none⟩) (n + m) cap') (n + m) (xs ++ List.replicate m (.int .u8 0)) ∧ w.grownBy w' (some g) := by
  obtain ⟨i, hi, hz, hsz, hby⟩ := info_parts info5
  have ht := Tryd.underlying25
  have htn := Tryd.underlying3
  have hw : IntKind.i64.wrap (m : Int) = m := by rw [IntKind.wrap_i64]; omega
  have hneg : ¬ ((m : Int) < 0) := by omega
  have h48i : ¬ (281474976710656 < (m : Int) * (i.bytes : Int)) := by rw [hby]; omega
  have hxl := hown.1
  have zc : Builtin.zeroCells (Value.int .u8 0).cells m = (List.replicate m (Value.int .u8 0)).toArray := by
    apply Array.ext'
    rw [zeros_list]
  rcases hown.2 with ⟨h, _⟩ | ⟨g', cap', cur, hv, hbg, hg, hnc, hcm, hcs, htake⟩
  · cases h
  injection hv with h1 h2 h3
  injection h1 with h1
  injection h1 with h1
  subst h1
  subst h3
  by_cases h0 : m = 0
  · subst h0
    refine ⟨g, cap, w, ?_, by simpa using hown, ⟨rfl, rfl, rfl, Nat.le_refl _, fun _ _ _ => rfl⟩⟩
    have hroom : n ≤ cap := hnc
    simp [Builtin.append_, run_underlying ht, run_underlying htn, sizeOf, typeInfo, hi, asInt, asIntOf, hroom, Addr.add_lit, storeCells, IntKind.wrap_i64]
  have hms : ¬ (m * i.size = 0) := by rw [hsz]; omega
  by_cases hroom : n + m ≤ cap
  · have hst := run_storeCells_at Tryd.prog g n 5 (List.replicate m (Value.int .u8 0)) 0 cur w hg (by simp; omega) (zeros_one m)
    simp only [Nat.add_zero, List.length_replicate] at hst
    refine ⟨g, cap, w.setRow g (cur.toList.take n ++ List.replicate m (Value.int .u8 0) ++ cur.toList.drop (n + m)).toArray, ?_, ⟨by rw [List.length_append, hxl]; simp, Or.inr ⟨g, cap, _, rfl, hbg, setRow_heap w g cur _ 5 _ hg, hroom, hcm, ?_, ?_⟩⟩, ?_⟩
    · have hsz1 : (⟨g, 0, none⟩ : Addr).add (n * i.size) = ⟨g, n, none⟩ := by rw [hsz, Nat.mul_one, Addr.add_lit]; simp
      simp [Builtin.append_, run_underlying ht, run_underlying htn, sizeOf, typeInfo, zeroValue, hi, hz, asInt, asIntOf, hw, hneg, h48i, hms, zc, hroom, hsz1]
      rw [hst]
      simp
    · simp only [List.size_toArray, List.length_append, List.length_take, List.length_drop, Array.length_toList, List.length_replicate]
      omega
    · rw [show (n + m) * 1 = (cur.toList.take n ++ List.replicate m (Value.int .u8 0)).length by simp [hcs]; omega]
      rw [show xs = cur.toList.take n by rw [← htake, Nat.mul_one]]
      exact List.take_left
    · exact ⟨rfl, rfl, rfl, by simp, fun k _ hk => setRow_other w g k _ (fun e => hk (by simp [e]))⟩
  · have hge := grownCap_ge w (n + m) cap 5
    have hcm' : grownCap w (n + m) cap 5 ≤ maxLen := grownCap_le_maxLen w (n + m) cap 5 (by unfold maxLen; omega)
    have h63' : ¬ (9223372036854775807 < ((n : Int) + (m : Int))) := by omega
    have hfit := growslice_fits (need := n + m) (old := cap) (bytes := 1) (by omega) (by omega)
    have h48' : ¬ (281474976710656 < Builtin.nextslicecap (n + m) cap * i.bytes) := by rw [hby]; omega
    have hfo := run_firstCells_some (P := Tryd.prog) w.drew i.size n ⟨g, 0, none⟩ n cap xs (by rw [hsz]; exact hxl) (by simpa using hown.cells (g := g) rfl)
    refine ⟨w.heap.size, grownCap w (n + m) cap 5, w.drew.alloc (.cells (xs.toArray ++ (List.replicate m (Value.int .u8 0)).toArray ++ Builtin.zeroCells (Value.int .u8 0).cells (grownCap w (n + m) cap 5 - (n + m))) 5), ?_, ⟨by rw [List.length_append, hxl]; simp, Or.inr ⟨w.heap.size, _, _, rfl, hB, heap_alloc_new w.drew _, hge, hcm', ?_, ?_⟩⟩, ?_⟩
    · simp [Builtin.append_, run_underlying ht, run_underlying htn, sizeOf, typeInfo, zeroValue, hi, hz, asInt, asIntOf, hw, hneg, h48i, hms, zc, hroom, h63', h48', Question.forced, hfo, newRow, grownCap]
    · simp only [Array.size_append, List.size_toArray, size_zeroCells, hxl, List.length_replicate, Value.cells, Nat.mul_one]
      simp
      omega
    · simp only [Array.toList_append, List.append_assoc]
      rw [← List.append_assoc, show (n + m) * 1 = (xs ++ List.replicate m (Value.int .u8 0)).length by simp [hxl]]
      exact List.take_left
    · exact ⟨rfl, rfl, rfl, by simp, fun k hk _ => Below.heap_alloc w.drew _ k hk⟩
end Go.Proofs.Qxb6618064aDoor
