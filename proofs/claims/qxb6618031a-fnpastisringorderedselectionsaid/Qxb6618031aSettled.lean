import Derived.Test.Qxb6618031aBuf
import Derived.BigRegion
import Derived.Deep.DeepCutAuto
set_option linter.unusedVariables false
namespace Go.Proofs.Qxb6618031a
open Go.RowKit Go.Sort

theorem mod_nat (a n p : Nat) (h : p = a % n) : ((a : Int) % (n : Int)) = (p : Int) := by subst h; exact (Int.natCast_emod a n).symm

theorem heap3 (w : World) (A B C : Obj) : (((w.alloc A).alloc B).alloc C).heap[w.heap.size]? = some A ∧ (((w.alloc A).alloc B).alloc C).heap[w.heap.size + 1]? = some B ∧ (((w.alloc A).alloc B).alloc C).heap[w.heap.size + 1 + 1]? = some C := by
  show (((w.heap.push A).push B).push C)[w.heap.size]? = some A ∧ (((w.heap.push A).push B).push C)[w.heap.size + 1]? = some B ∧ (((w.heap.push A).push B).push C)[w.heap.size + 1 + 1]? = some C
  simp only [Array.getElem?_push, Array.size_push]
  refine ⟨?_, ?_, ?_⟩
  · rw [if_neg (by omega), if_neg (by omega), if_pos trivial]
  · rw [if_neg (by omega), if_pos trivial]
  · rw [if_pos trivial]
theorem Buf3.of_made {w : World} {b m : Nat} (h : w.heap[b]? = some (.cells (made3 m) 30 (0, 0))) : Buf3 w b m (fun _ => (0, 0, 0)) :=
  ⟨made3 m, h, made3_size m, fun _ _ => ⟨made3_get m _ (by omega), made3_get m _ (by omega), made3_get m _ (by omega)⟩⟩

theorem Buf3.other {w : World} {b n : Nat} {f : Nat → W3} (h : Buf3 w b n f) {a : Addr} (ha : b ≠ a.block) (v : Value) : Buf3 (w.setCell a v) b n f := by
  obtain ⟨c, hc, r⟩ := h
  exact ⟨c, by rw [Below.heap_setCell _ _ _ _ ha]; exact hc, r⟩

/-- A ring.Place in a block of its own. -/
def placeObj (x y : W3) (bs m : Nat) (keep : Int) : Obj :=
  .cells #[.int .u64 x.1, .int .u64 x.2.1, .int .u64 x.2.2, .int .u64 y.1, .int .u64 y.2.1, .int .u64 y.2.2, .slice (some ⟨bs, 0, none⟩) m m, .int .i64 keep] 32 (0, 0)

def placeVal (x y : W3) (bs m : Nat) (keep : Int) : Value :=
  .agg #[.int .u64 x.1, .int .u64 x.2.1, .int .u64 x.2.2, .int .u64 y.1, .int .u64 y.2.1, .int .u64 y.2.2, .slice (some ⟨bs, 0, none⟩) m m, .int .i64 keep]
theorem place_cells {w : World} {bp : Nat} {x y : W3} {bs m : Nat} {keep : Int} (h : w.heap[bp]? = some (placeObj x y bs m keep)) :
    w.cell? ⟨bp, 0, none⟩ = some (.int .u64 x.1) ∧ w.cell? ⟨bp, 1, none⟩ = some (.int .u64 x.2.1) ∧ w.cell? ⟨bp, 2, none⟩ = some (.int .u64 x.2.2) ∧
    w.cell? ⟨bp, 3, none⟩ = some (.int .u64 y.1) ∧ w.cell? ⟨bp, 4, none⟩ = some (.int .u64 y.2.1) ∧ w.cell? ⟨bp, 5, none⟩ = some (.int .u64 y.2.2) ∧
    w.cell? ⟨bp, 6, none⟩ = some (.slice (some ⟨bs, 0, none⟩) m m) ∧ w.cell? ⟨bp, 7, none⟩ = some (.int .i64 keep) ∧ ∀ o, w.frozen? ⟨bp, o, none⟩ = false := by
  simp [World.cell?, World.frozen?, h, placeObj]

set_option maxHeartbeats 2000000 in
theorem settled_any (b n : Nat) (Z : Nat → W3) (w : World) (hn : n ≤ 100000) (hR : Buf3 w b n Z) (i keep m p : Nat) (hi : i < n) (hk : (keep : Int) ≤ 9223372036854775807)
     (hm : (if n < keep then (n : Int) else keep) = (m : Int)) (hmn : m ≤ n) (hp : p < n) (hpe : ((i : Int) + n - 1) % n = p) :
    Calls Try.prog 9 #[.slice (some ⟨b, 0, none⟩) n n, .int .i64 i, .int .i64 keep] w
      fun e w' => ∃ bs : Nat, e = .returned (placeVal (Z i) (Z p) bs m keep) ∧ Ext w w' ∧ w.heap.size ≤ bs ∧ Buf3 w' bs m (fun j => Z ((i + 1 + j) % n)) := by
  have hmk := run_make25 m (by omega)
  obtain ⟨a0, a1, a2⟩ := hR.cell (i := i) (by omega)
  obtain ⟨p0, p1, p2⟩ := hR.cell (i := p) hp
  have hb := hR.lt
  have hb1 : b < w.heap.size + 1 := by omega
  have hb2 : b < w.heap.size + 1 + 1 := by omega
  have hb3 : b < w.heap.size + 1 + 1 + 1 := by omega
  go_enter Try.func9, Try.ntmps9
  go_upto_region 1 with fail
  go_cut [7] (fun v wc => ∃ bp bs : Nat, v = .pointer (some ⟨bp, 0, none⟩) ∧ w.heap.size < bp ∧ w.heap.size < bs ∧ bp ≠ bs ∧ wc.heap[bp]? = some (placeObj (Z i) (Z p) bs m keep) ∧ Buf3 wc bs m (fun _ => (0, 0, 0)) ∧
    Ext w wc ∧ wc.heap[w.heap.size]? = some (.cells #[.int .u64 0, .int .u64 0, .int .u64 0, .int .u64 0, .int .u64 0, .int .u64 0, .slice none 0 0, .int .i64 0] 32 (0, 0)))
  case first =>
    go_big_region
    all_goals (go_wp2_with fail)
    all_goals go_meet
    · exact ⟨w.heap.size + 1 + 1, w.heap.size + 1, rfl, by omega, by omega, by omega, (heap3 w _ _ _).2.2, Buf3.of_made (heap3 w _ _ _).2.1, ((((Ext.refl w).alloc _).alloc _).alloc _).drew, (heap3 w _ _ _).1⟩
    · exact ⟨w.heap.size + 1, w.heap.size + 1 + 1, rfl, by omega, by omega, by omega, (heap3 w _ _ _).2.1, Buf3.of_made (heap3 w _ _ _).2.2, ((((Ext.refl w).alloc _).alloc _).alloc _).drew, (heap3 w _ _ _).1⟩
  case rest =>
    obtain ⟨bp, bs, rfl, hbp, hbs, hps, hP, hS, hE, hO⟩ := hcut
    have hP0 : ∀ (W : World), W.heap[bp]? = some (placeObj (Z i) (Z p) bs m keep) → W.cell? ⟨bp, 6, none⟩ = some (.slice (some ⟨bs, 0, none⟩) m m) := fun W h => by simp [World.cell?, h, placeObj]
    have g6 := hP0 _ hP
    go_wp2
    go_loopw [34, 8] (fun v v8 wr => ∃ k : Nat, k ≤ m ∧ v = .int .i64 k ∧ wr.heap[bp]? = some (placeObj (Z i) (Z p) bs m keep) ∧ Buf3 wr bs m (fun j => if j < k then Z ((i + 1 + j) % n) else (0, 0, 0)) ∧
      Ext w wr ∧ wr.heap[w.heap.size]? = some (.cells #[.int .u64 0, .int .u64 0, .int .u64 0, .int .u64 0, .int .u64 0, .int .u64 0, .slice none 0 0, .int .i64 0] 32 (0, 0))) (fun v _ _ => m - (intOf v).toNat)
    case atStart => exact ⟨0, by omega, rfl, hP, hS.congr (fun i _ => by simp), hE, hO⟩
    case round =>
      obtain ⟨k, hkm, rfl, hPr, hSr, hEr, hOr⟩ := hrel
      have g6r := hP0 _ hPr
      clear hmk g6 hP hS hO hE a0 a1 a2 p0 p1 p2 hP0
      by_cases hlt : k < m
      · obtain ⟨q, hq⟩ : ∃ q, q = (i + 1 + k) % n := ⟨_, rfl⟩
        have hqn : q < n := by rw [hq]; exact Nat.mod_lt _ (by omega)
        have hqe : ((i : Int) + 1 + k) % n = q := mod_nat (i + 1 + k) n q hq
        have HQ : Hid _ := hq
        clear hq
        have hRr := hR.ext hEr
        obtain ⟨a0, a1, a2⟩ := hRr.cell (i := q) hqn
        obtain ⟨c0, c1, c2⟩ := hSr.cell (i := k) hlt
        have hf := hSr.frozen
        go_wp2
        go_big_region
        all_goals (go_wp2)
        go_roundw
        case rel =>
          refine ⟨k + 1, by omega, by go_num, ?_, ?_, ?_, ?_⟩
          · show (((wr.setCell _ _).setCell _ _).setCell _ _).heap[bp]? = _
            rw [Below.heap_setCell _ _ _ _ hps, Below.heap_setCell _ _ _ _ hps, Below.heap_setCell _ _ _ _ hps]
            exact hPr
          · exact (hSr.set k hlt (Z q)).congr fun j hj => by
              by_cases hjk : j = k
              · subst hjk; rw [if_pos rfl, if_pos (by omega), HQ.out]
              · by_cases h : j < k
                · rw [if_neg hjk, if_pos h, if_pos (by omega)]
                · rw [if_neg hjk, if_neg h, if_neg (by omega)]
          · exact (((hEr.setCell (Nat.le_of_lt hbs) _).setCell (Nat.le_of_lt hbs) _).setCell (Nat.le_of_lt hbs) _).drew
          · show (((wr.setCell _ _).setCell _ _).setCell _ _).heap[w.heap.size]? = _
            rw [Below.heap_setCell _ _ _ _ (Nat.ne_of_lt hbs), Below.heap_setCell _ _ _ _ (Nat.ne_of_lt hbs), Below.heap_setCell _ _ _ _ (Nat.ne_of_lt hbs)]
            exact hOr
        case measure => simp [intOf]; omega
      · obtain ⟨q0, q1, q2, q3, q4, q5, _, q7, _⟩ := place_cells hPr
        have hz : ∀ o, wr.frozen? ⟨w.heap.size, o, none⟩ = false := fun o => by simp [World.frozen?, hOr]
        have z0 : wr.cell? ⟨w.heap.size, 0, none⟩ = some (.int .u64 0) := by simp [World.cell?, hOr]
        have z1 : wr.cell? ⟨w.heap.size, 1, none⟩ = some (.int .u64 0) := by simp [World.cell?, hOr]
        have z2 : wr.cell? ⟨w.heap.size, 2, none⟩ = some (.int .u64 0) := by simp [World.cell?, hOr]
        have z3 : wr.cell? ⟨w.heap.size, 3, none⟩ = some (.int .u64 0) := by simp [World.cell?, hOr]
        have z4 : wr.cell? ⟨w.heap.size, 4, none⟩ = some (.int .u64 0) := by simp [World.cell?, hOr]
        have z5 : wr.cell? ⟨w.heap.size, 5, none⟩ = some (.int .u64 0) := by simp [World.cell?, hOr]
        have z6 : wr.cell? ⟨w.heap.size, 6, none⟩ = some (.slice none 0 0) := by simp [World.cell?, hOr]
        have z7 : wr.cell? ⟨w.heap.size, 7, none⟩ = some (.int .i64 0) := by simp [World.cell?, hOr]
        go_wp2
        refine bodyPost_ret (v := placeVal (Z i) (Z p) bs m keep) (by simp [results, Try.results9, go_sem, placeVal, z0, z1, z2, z3, z4, z5, z6, z7]) rfl ⟨bs, rfl, ?_, Nat.le_of_lt hbs, ?_⟩
        · iterate 8 refine Ext.setCell ?_ (Nat.le_refl _) _
          exact hEr
        · have hne : bs ≠ w.heap.size := by omega
          have hfin := hSr.congr (g := fun j => Z ((i + 1 + j) % n)) (fun j hj => by rw [if_pos (by omega)])
          iterate 8 refine Buf3.other ?_ hne _
          exact hfin

end Go.Proofs.Qxb6618031a
