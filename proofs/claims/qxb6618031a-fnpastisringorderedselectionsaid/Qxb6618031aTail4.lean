/- What the tail of FnLeftOnSettledRing needs of the world. -/
import Derived.Test.Qxb6618031aLaw4
set_option linter.unusedVariables false
namespace Go.Proofs.Qxb6618031a
open Go.RowKit Go.Sort

set_option maxHeartbeats 400000 in
theorem minInt_eq (a b c : Int) (w : World) (h : c = if a < b then a else b) :
    Calls Try.prog 10 #[.int .i64 a, .int .i64 b] w fun e w' => e = .returned (.int .i64 c) ∧ w' = w := by
  subst h
  exact minInt_any a b w
theorem skipAt_sk (b off n cap : Nat) (Z : Nat → W3) (gi t : Nat) (w : World) (hn : n ≤ 1000000) (hR : Row3 w b off n Z) (ht : t + 1 < n) :
    Calls Try.prog 15 #[.slice (some ⟨b, off, none⟩) n cap, .int .i64 gi, .int .i64 t] w
      fun e w' => e = .returned (.agg #[.int .u64 (Z (sk gi t)).1, .int .u64 (Z (sk gi t)).2.1, .int .u64 (Z (sk gi t)).2.2]) ∧ Ext w w' :=
  skipAt_any b off n cap Z gi t w hn hR ht

theorem placeV_cells {w : World} {bp : Nat} {x y : W3} {g L cap : Nat} {keep : Int} (h : w.heap[bp]? = some (placeV x y (.slice (some ⟨g, 0, none⟩) L cap) keep)) :
    w.cell? ⟨bp, 0, none⟩ = some (.int .u64 x.1) ∧ w.cell? ⟨bp, 1, none⟩ = some (.int .u64 x.2.1) ∧ w.cell? ⟨bp, 2, none⟩ = some (.int .u64 x.2.2) ∧
    w.cell? ⟨bp, 3, none⟩ = some (.int .u64 y.1) ∧ w.cell? ⟨bp, 4, none⟩ = some (.int .u64 y.2.1) ∧ w.cell? ⟨bp, 5, none⟩ = some (.int .u64 y.2.2) ∧
    w.cell? ⟨bp, 6, none⟩ = some (.slice (some ⟨g, 0, none⟩) L cap) ∧ w.cell? ⟨bp, 7, none⟩ = some (.int .i64 keep) := by
  simp [World.cell?, h, placeV]

/-- Facts of a world behind Left. -/
structure TS (w W : World) (b off n : Nat) (Z : Nat → W3) (bp i : Nat) (y : W3) (keep : Nat) (g L cap : Nat) (f : Nat → W3) : Prop where
  ws : Row3 W b off n Z
  place : W.heap[bp]? = some (placeV (Z i) y (.slice (some ⟨g, 0, none⟩) L cap) keep)
  succ : Row3 W g 0 L f
  below : Below w.heap.size w W
theorem TS.ext {w W W' : World} {b off n : Nat} {Z : Nat → W3} {bp i : Nat} {y : W3} {keep g L cap : Nat} {f : Nat → W3} (h : TS w W b off n Z bp i y keep g L cap f) (hE : Ext W W') : TS w W' b off n Z bp i y keep g L cap f :=
  ⟨h.ws.ext hE, (hE.block _ (Array.getElem?_eq_some_iff.1 h.place).1).trans h.place, h.succ.ext hE, h.below.trans (hE.below.mono h.below.size)⟩
theorem TS.quiet {w W : World} {b off n : Nat} {Z : Nat → W3} {bp i : Nat} {y : W3} {keep g L cap : Nat} {f : Nat → W3} (h : TS w W b off n Z bp i y keep g L cap f) (m : Nat) (os : Array Obj) : TS w (grow (W.drewN m) os) b off n Z bp i y keep g L cap f :=
  h.ext ⟨m, os, rfl⟩
theorem Row3.at0 {w : World} {b n : Nat} {Z : Nat → W3} (h : Row3 w b 0 n Z) {i : Nat} (hi : i < n) :
  w.cell? ⟨b, i * 3, none⟩ = some (.int .u64 (Z i).1) ∧ w.cell? ⟨b, i * 3 + 1, none⟩ = some (.int .u64 (Z i).2.1) ∧ w.cell? ⟨b, i * 3 + 2, none⟩ = some (.int .u64 (Z i).2.2) := by
  simpa using h.2 i hi
/-- from what Left leaves to the tail's facts -/
theorem TS.of_left {w W wc : World} {b off n : Nat} {Z : Nat → W3} {bp i : Nat} {y : W3} {keep L : Nat} {f : Nat → W3} (hR : Row3 w b off n Z) (hE : Ext w W) (hbp : w.heap.size ≤ bp) (hl : LeftPost W wc bp (Z i) y keep L f) :
    ∃ g cap, TS w wc b off n Z bp i y keep g L cap f := by
  obtain ⟨g, cap, h1, h2, h3, h4⟩ := hl
  have hsz := hE.size
  have hblk : ∀ k, k < w.heap.size → wc.heap[k]? = w.heap[k]? := fun k hk => (h2.block k (by omega) (fun e => by simp at e; omega)).trans (hE.block k hk)
  have hB : Below w.heap.size w wc := ⟨h2.os.trans hE.below.os, h2.tape.trans hE.below.tape, h2.output.trans hE.below.output, Nat.le_trans hsz h2.size, hblk⟩
  refine ⟨g, cap, ?_, h1, h4, hB⟩
  refine ⟨Nat.lt_of_lt_of_le hR.1 hB.size, fun i hi => ?_⟩
  obtain ⟨c0, c1, c2⟩ := hR.2 i hi
  exact ⟨(hB.cell (p := ⟨b, _, none⟩) hR.1).trans c0, (hB.cell (p := ⟨b, _, none⟩) hR.1).trans c1, (hB.cell (p := ⟨b, _, none⟩) hR.1).trans c2⟩
end Go.Proofs.Qxb6618031a
