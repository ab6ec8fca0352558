/- the law. -/
import Derived.Test.Qxb6618064aSt
set_option linter.unusedVariables false
namespace Go.Proofs.Qxb6618064a
open Go.RowKit Go.Sort Go.Maps Go.WideShapes Go.ChangeShapes Go.WideMaps Plain

set_option maxRecDepth 100000 in
set_option maxHeartbeats 4000000 in
theorem fn3_any (aa sa ua : Option Addr) (na ca ns cs nu cu : Nat) (la ls lu : List A2) (w : World) (hRa : RowO w aa la) (hRs : RowO w sa ls) (hRu : RowO w ua lu) (hla : la.length = na) (hls : ls.length = ns) (hlu : lu.length = nu)
    (hza : aa = none → na = 0 ∧ ca = 0) (hzs : sa = none → ns = 0 ∧ cs = 0) (hzu : ua = none → nu = 0 ∧ cu = 0) (hma : ∀ x ∈ la, x.1.size ≤ maxLen ∧ x.2.size ≤ maxLen) (hms : ∀ x ∈ ls, x.1.size ≤ maxLen ∧ x.2.size ≤ maxLen) (hmu : ∀ x ∈ lu, x.1.size ≤ maxLen ∧ x.2.size ≤ maxLen)
    (ka : na ≤ 65536) (ks : ns ≤ 65536) (ku : nu ≤ 65536) :
    Calls Try.prog 3 #[.slice aa na ca, .slice sa ns cs, .slice ua nu cu] w fun e w' => e = .returned (.bool true) ∧ Below w.heap.size w w' := by
  have HLA : Hid _ := hla
  have HLS : Hid _ := hls
  have HLU : Hid _ := hlu
  have HZA : Hid _ := hza
  have HZS : Hid _ := hzs
  have HZU : Hid _ := hzu
  have HMA : Hid _ := hma
  have HMS : Hid _ := hms
  have HMU : Hid _ := hmu
  clear hla hls hlu hza hzs hzu hma hms hmu
  go_enter Try.func3, Try.ntmps3
  go_wp2_with fail
  refine (attrBytes_any aa na ca la 0 w ka HLA.out hRa (by omega) HMA.out).mono ?_
  rintro e W0 ⟨rfl, r1, rfl, hr1, he1⟩
  go_wp2_with fail
  refine (attrBytes_any sa ns cs ls r1 _ ks HLS.out hRs hr1 HMS.out).mono ?_
  rintro e W0 ⟨rfl, r2, rfl, hr2, he2⟩
  go_wp2_with fail
  refine (attrBytes_any ua nu cu lu r2 _ ku HLU.out hRu hr2 HMU.out).mono ?_
  rintro e W0 ⟨rfl, r3, rfl, hr3, he3⟩
  by_cases hbig : 1048576 < r3
  · have hbig' : (1048576 : Int) < (r3 : Int) := by omega
    clear he1 he2 he3
    go_wp2
    go_ret
    exact ⟨rfl, Below.refl _ _⟩
  have hbig' : ¬ ((1048576 : Int) < (r3 : Int)) := by omega
  have e3 := he3 (by omega)
  have e2 := he2 (by omega)
  have e1 := he1 (by omega)
  have hT : sumW la + sumW ls + sumW lu ≤ 1048576 := by omega
  clear e1 e2 e3 he1 he2 he3
  have hmla0 := sumW_merge_le la
  have hmls0 := sumW_merge_le ls
  have hmlu0 := sumW_merge_le lu
  obtain ⟨own0, hown0⟩ : ∃ own0 : Nat → Option Nat, own0 = fun _ => none := ⟨_, rfl⟩
  obtain ⟨Ls0, hLs0⟩ : ∃ Ls0 : Nat → Option (List A2), Ls0 = fun _ => none := ⟨_, rfl⟩
  have hI : Inv W0 own0 Ls0 := ⟨fun p L h => (by rw [hLs0] at h; cases h), fun b _ => (by rw [hown0])⟩
  have HO : Hid _ := hown0
  clear hown0 hLs0
  have hW : Step own0 own0 Ls0 Ls0 W0 W0 := Step.refl _ _ _
  go_wp2_with fail
  refine (clone_o aa na ca la _ (by omega) HLA.out hRa HZA.out).mono ?_
  rintro e W1 ⟨coA, rfl, hE, hrow, hzA0⟩
  have hzA : Hid (coA = none → na = 0) := hzA0
  have rA := CopyPost.row (T := 51) (n := na) hrow hI
  have hs1 := hE.size
  have t0 := hI.ext hE
  clear hI
  have hI := t0
  clear t0
  have t0 := hW.trans (Step.of_ext (own := own0) (Ls := Ls0) hE)
  clear hW
  have hW := t0
  clear t0
  have t0 := hRs.ext hE
  clear hRs
  have hRs := t0
  clear t0
  have t0 := hRu.ext hE
  clear hRu
  have hRu := t0
  clear t0
  clear hE hrow hzA0
  clear hRa
  go_wp2_with fail
  refine (clone_o sa ns cs ls _ (by omega) HLS.out hRs HZS.out).mono ?_
  rintro e W2 ⟨coS, rfl, hE, hrow, hzS0⟩
  have hzS : Hid (coS = none → ns = 0) := hzS0
  have rS := CopyPost.row (T := 51) (n := ns) hrow hI
  have hs2 := hE.size
  have t0 := hI.ext hE
  clear hI
  have hI := t0
  clear t0
  have t0 := hW.trans (Step.of_ext (own := own0) (Ls := Ls0) hE)
  clear hW
  have hW := t0
  clear t0
  have t0 := rA.step (Step.of_ext (own := own0) (Ls := Ls0) hE)
  clear rA
  have rA := t0
  clear t0
  have t0 := hRu.ext hE
  clear hRu
  have hRu := t0
  clear t0
  clear hE hrow hzS0
  clear hRs
  go_wp2_with fail
  refine (clone_o ua nu cu lu _ (by omega) HLU.out hRu HZU.out).mono ?_
  rintro e W3 ⟨coU, rfl, hE, hrow, hzU0⟩
  have hzU : Hid (coU = none → nu = 0) := hzU0
  have rU := CopyPost.row (T := 51) (n := nu) hrow hI
  have hs3 := hE.size
  have t0 := hI.ext hE
  clear hI
  have hI := t0
  clear t0
  have t0 := hW.trans (Step.of_ext (own := own0) (Ls := Ls0) hE)
  clear hW
  have hW := t0
  clear t0
  have t0 := rA.step (Step.of_ext (own := own0) (Ls := Ls0) hE)
  clear rA
  have rA := t0
  clear t0
  have t0 := rS.step (Step.of_ext (own := own0) (Ls := Ls0) hE)
  clear rS
  have rS := t0
  clear t0
  clear hE hrow hzU0
  clear hRu
  go_wp2_with fail
  refine (toX_o coA na la _ (by omega) HLA.out rA.row hzA.out).mono ?_
  rintro e W4 ⟨xo, rfl, hE, hrow, hz0⟩
  have rX := CopyPost.row (T := 56) (n := na) hrow hI
  have hs4 := hE.size
  have t0 := hI.ext hE
  clear hI
  have hI := t0
  clear t0
  have t0 := hW.trans (Step.of_ext (own := own0) (Ls := Ls0) hE)
  clear hW
  have hW := t0
  clear t0
  have t0 := rA.step (Step.of_ext (own := own0) (Ls := Ls0) hE)
  clear rA
  have rA := t0
  clear t0
  have t0 := rS.step (Step.of_ext (own := own0) (Ls := Ls0) hE)
  clear rS
  have rS := t0
  clear t0
  have t0 := rU.step (Step.of_ext (own := own0) (Ls := Ls0) hE)
  clear rU
  have rU := t0
  clear t0
  clear hE hrow hz0
  have hmr := zzmerged_any xo na na la own0 Ls0 W4 hI HLA.out rX.row (by omega)
  have HMR : Hid (Calls Try.prog 7 #[.slice xo na na] W4 fun e w' => MRPost W4 own0 Ls0 (mergeL la) e w') := hmr
  clear hmr rX
  go_wp2_with fail
  refine HMR.out.mono ?_
  clear HMR
  intro e W5 hpost
  obtain ⟨own5, Ls5, pa, rfl, hI', qA, hf0, hS⟩ := hpost.step
  clear hpost
  have HFA : Hid (∀ p, pa = some p → W4.heap.size ≤ p ∧ p < W5.heap.size) := hf0
  have hs5 := hS.kept.size
  clear hI
  have hI := hI'
  clear hI' hf0
  have t0 := hW.trans hS
  clear hW
  have hW := t0
  clear t0
  have t0 := rA.step hS
  clear rA
  have rA := t0
  clear t0
  have t0 := rS.step hS
  clear rS
  have rS := t0
  clear t0
  have t0 := rU.step hS
  clear rU
  have rU := t0
  clear t0
  clear hS
  have b8 := BlkU.mk (W := W5) (po := pa) (l := (mergeL la)) hI
  have hEa : Ext W5 (W5.alloc (recObj (pa.map fun p => ⟨p, 0, none⟩) (mergeL la).length (firsts (mergeL la)).length (sumW (mergeL la)) (sumW (mergeL (mergeL la))))) := (Ext.refl _).alloc _
  have t0 := hI.ext hEa
  clear hI
  have hI := t0
  clear t0
  have t0 := hW.trans (Step.of_ext (own := own5) (Ls := Ls5) hEa)
  clear hW
  have hW := t0
  clear t0
  have t0 := rA.step (Step.of_ext (own := own5) (Ls := Ls5) hEa)
  clear rA
  have rA := t0
  clear t0
  have t0 := rS.step (Step.of_ext (own := own5) (Ls := Ls5) hEa)
  clear rS
  have rS := t0
  clear t0
  have t0 := rU.step (Step.of_ext (own := own5) (Ls := Ls5) hEa)
  clear rU
  have rU := t0
  clear t0
  have t0 := qA.grow ((Step.of_ext (own := own5) (Ls := Ls5) hEa)).grow
  clear qA
  have qA := t0
  clear t0
  have hsa := hEa.size
  have hsb5 : W5.heap.size + 1 = (W5.alloc (recObj (pa.map fun p => ⟨p, 0, none⟩) (mergeL la).length (firsts (mergeL la)).length (sumW (mergeL la)) (sumW (mergeL (mergeL la))))).heap.size := by simp
  clear hEa hsa
  go_wp2_with fail
  refine (toX_o coS ns ls _ (by omega) HLS.out rS.row hzS.out).mono ?_
  rintro e W6 ⟨xo, rfl, hE, hrow, hz0⟩
  have rX := CopyPost.row (T := 56) (n := ns) hrow hI
  have hs6 := hE.size
  have t0 := hI.ext hE
  clear hI
  have hI := t0
  clear t0
  have t0 := hW.trans (Step.of_ext (own := own5) (Ls := Ls5) hE)
  clear hW
  have hW := t0
  clear t0
  have t0 := rA.step (Step.of_ext (own := own5) (Ls := Ls5) hE)
  clear rA
  have rA := t0
  clear t0
  have t0 := rS.step (Step.of_ext (own := own5) (Ls := Ls5) hE)
  clear rS
  have rS := t0
  clear t0
  have t0 := rU.step (Step.of_ext (own := own5) (Ls := Ls5) hE)
  clear rU
  have rU := t0
  clear t0
  have t0 := b8.step (Step.of_ext (own := own5) (Ls := Ls5) hE)
  clear b8
  have b8 := t0
  clear t0
  have t0 := qA.grow ((Step.of_ext (own := own5) (Ls := Ls5) hE)).grow
  clear qA
  have qA := t0
  clear t0
  clear hE hrow hz0
  have hmr := zzmerged_any xo ns ns ls own5 Ls5 W6 hI HLS.out rX.row (by omega)
  have HMR : Hid (Calls Try.prog 7 #[.slice xo ns ns] W6 fun e w' => MRPost W6 own5 Ls5 (mergeL ls) e w') := hmr
  clear hmr rX
  go_wp2_with fail
  refine HMR.out.mono ?_
  clear HMR
  intro e W7 hpost
  obtain ⟨own7, Ls7, ps, rfl, hI', qS, hf0, hS⟩ := hpost.step
  clear hpost
  have HFS : Hid (∀ p, ps = some p → W6.heap.size ≤ p ∧ p < W7.heap.size) := hf0
  have hs7 := hS.kept.size
  clear hI
  have hI := hI'
  clear hI' hf0
  have t0 := hW.trans hS
  clear hW
  have hW := t0
  clear t0
  have t0 := rA.step hS
  clear rA
  have rA := t0
  clear t0
  have t0 := rS.step hS
  clear rS
  have rS := t0
  clear t0
  have t0 := rU.step hS
  clear rU
  have rU := t0
  clear t0
  have t0 := b8.step hS
  clear b8
  have b8 := t0
  clear t0
  have t0 := qA.grow (hS).grow
  clear qA
  have qA := t0
  clear t0
  clear hS
  have b9 := BlkU.mk (W := W7) (po := ps) (l := (mergeL ls)) hI
  have hEa : Ext W7 (W7.alloc (recObj (ps.map fun p => ⟨p, 0, none⟩) (mergeL ls).length (firsts (mergeL ls)).length (sumW (mergeL ls)) (sumW (mergeL (mergeL ls))))) := (Ext.refl _).alloc _
  have t0 := hI.ext hEa
  clear hI
  have hI := t0
  clear t0
  have t0 := hW.trans (Step.of_ext (own := own7) (Ls := Ls7) hEa)
  clear hW
  have hW := t0
  clear t0
  have t0 := rA.step (Step.of_ext (own := own7) (Ls := Ls7) hEa)
  clear rA
  have rA := t0
  clear t0
  have t0 := rS.step (Step.of_ext (own := own7) (Ls := Ls7) hEa)
  clear rS
  have rS := t0
  clear t0
  have t0 := rU.step (Step.of_ext (own := own7) (Ls := Ls7) hEa)
  clear rU
  have rU := t0
  clear t0
  have t0 := b8.step (Step.of_ext (own := own7) (Ls := Ls7) hEa)
  clear b8
  have b8 := t0
  clear t0
  have t0 := qA.grow ((Step.of_ext (own := own7) (Ls := Ls7) hEa)).grow
  clear qA
  have qA := t0
  clear t0
  have t0 := qS.grow ((Step.of_ext (own := own7) (Ls := Ls7) hEa)).grow
  clear qS
  have qS := t0
  clear t0
  have hsa := hEa.size
  have hsb7 : W7.heap.size + 1 = (W7.alloc (recObj (ps.map fun p => ⟨p, 0, none⟩) (mergeL ls).length (firsts (mergeL ls)).length (sumW (mergeL ls)) (sumW (mergeL (mergeL ls))))).heap.size := by simp
  clear hEa hsa
  go_wp2_with fail
  refine (toX_o coU nu lu _ (by omega) HLU.out rU.row hzU.out).mono ?_
  rintro e W8 ⟨xo, rfl, hE, hrow, hz0⟩
  have rX := CopyPost.row (T := 56) (n := nu) hrow hI
  have hs8 := hE.size
  have t0 := hI.ext hE
  clear hI
  have hI := t0
  clear t0
  have t0 := hW.trans (Step.of_ext (own := own7) (Ls := Ls7) hE)
  clear hW
  have hW := t0
  clear t0
  have t0 := rA.step (Step.of_ext (own := own7) (Ls := Ls7) hE)
  clear rA
  have rA := t0
  clear t0
  have t0 := rS.step (Step.of_ext (own := own7) (Ls := Ls7) hE)
  clear rS
  have rS := t0
  clear t0
  have t0 := rU.step (Step.of_ext (own := own7) (Ls := Ls7) hE)
  clear rU
  have rU := t0
  clear t0
  have t0 := b8.step (Step.of_ext (own := own7) (Ls := Ls7) hE)
  clear b8
  have b8 := t0
  clear t0
  have t0 := b9.step (Step.of_ext (own := own7) (Ls := Ls7) hE)
  clear b9
  have b9 := t0
  clear t0
  have t0 := qA.grow ((Step.of_ext (own := own7) (Ls := Ls7) hE)).grow
  clear qA
  have qA := t0
  clear t0
  have t0 := qS.grow ((Step.of_ext (own := own7) (Ls := Ls7) hE)).grow
  clear qS
  have qS := t0
  clear t0
  clear hE hrow hz0
  have hmr := zzmerged_any xo nu nu lu own7 Ls7 W8 hI HLU.out rX.row (by omega)
  have HMR : Hid (Calls Try.prog 7 #[.slice xo nu nu] W8 fun e w' => MRPost W8 own7 Ls7 (mergeL lu) e w') := hmr
  clear hmr rX
  go_wp2_with fail
  refine HMR.out.mono ?_
  clear HMR
  intro e W9 hpost
  obtain ⟨own9, Ls9, pu, rfl, hI', qU, hf0, hS⟩ := hpost.step
  clear hpost
  have HFU : Hid (∀ p, pu = some p → W8.heap.size ≤ p ∧ p < W9.heap.size) := hf0
  have hs9 := hS.kept.size
  clear hI
  have hI := hI'
  clear hI' hf0
  have t0 := hW.trans hS
  clear hW
  have hW := t0
  clear t0
  have t0 := rA.step hS
  clear rA
  have rA := t0
  clear t0
  have t0 := rS.step hS
  clear rS
  have rS := t0
  clear t0
  have t0 := rU.step hS
  clear rU
  have rU := t0
  clear t0
  have t0 := b8.step hS
  clear b8
  have b8 := t0
  clear t0
  have t0 := b9.step hS
  clear b9
  have b9 := t0
  clear t0
  have t0 := qA.grow (hS).grow
  clear qA
  have qA := t0
  clear t0
  have t0 := qS.grow (hS).grow
  clear qS
  have qS := t0
  clear t0
  clear hS
  obtain ⟨b80, b81, b82, b83, b84, b8f, b8l⟩ := b8.cells
  obtain ⟨b90, b91, b92, b93, b94, b9f, b9l⟩ := b9.cells
  have b10 := BlkU.mk (W := W9) (po := pu) (l := (mergeL lu)) hI
  have hEa : Ext W9 (W9.alloc (recObj (pu.map fun p => ⟨p, 0, none⟩) (mergeL lu).length (firsts (mergeL lu)).length (sumW (mergeL lu)) (sumW (mergeL (mergeL lu))))) := (Ext.refl _).alloc _
  have t0 := hI.ext hEa
  clear hI
  have hI := t0
  clear t0
  have t0 := hW.trans (Step.of_ext (own := own9) (Ls := Ls9) hEa)
  clear hW
  have hW := t0
  clear t0
  have t0 := rA.step (Step.of_ext (own := own9) (Ls := Ls9) hEa)
  clear rA
  have rA := t0
  clear t0
  have t0 := rS.step (Step.of_ext (own := own9) (Ls := Ls9) hEa)
  clear rS
  have rS := t0
  clear t0
  have t0 := rU.step (Step.of_ext (own := own9) (Ls := Ls9) hEa)
  clear rU
  have rU := t0
  clear t0
  have t0 := b8.step (Step.of_ext (own := own9) (Ls := Ls9) hEa)
  clear b8
  have b8 := t0
  clear t0
  have t0 := b9.step (Step.of_ext (own := own9) (Ls := Ls9) hEa)
  clear b9
  have b9 := t0
  clear t0
  have t0 := qA.grow ((Step.of_ext (own := own9) (Ls := Ls9) hEa)).grow
  clear qA
  have qA := t0
  clear t0
  have t0 := qS.grow ((Step.of_ext (own := own9) (Ls := Ls9) hEa)).grow
  clear qS
  have qS := t0
  clear t0
  have t0 := qU.grow ((Step.of_ext (own := own9) (Ls := Ls9) hEa)).grow
  clear qU
  have qU := t0
  clear t0
  have hsa := hEa.size
  have hsb9 : W9.heap.size + 1 = (W9.alloc (recObj (pu.map fun p => ⟨p, 0, none⟩) (mergeL lu).length (firsts (mergeL lu)).length (sumW (mergeL lu)) (sumW (mergeL (mergeL lu))))).heap.size := by simp
  clear hEa hsa
  go_wp2_with fail
  have hdd : ∀ p, pa = some p → ps ≠ some p := fun p hx hy => by have h1 := HFA.out p hx; have h2 := HFS.out p hy; omega
  have hbb : sumW (mergeL la) + sumW (mergeL ls) ≤ 1048576 := by omega
  refine (zzthen_of hI qA qS hdd hbb).mono ?_
  intro e W10 hpost
  obtain ⟨own10, Ls10, p1, l1, rfl, hI', qT, hlkT0, hsmT, hpt0, hS⟩ := hpost.step
  have hlkT : Hid (Like l1 ((mergeL la) ++ (mergeL ls))) := hlkT0
  have HPT : Hid (p1 = pa ∨ p1 = ps ∨ ∃ p, p1 = some p ∧ (W9.alloc (recObj (pu.map fun p => ⟨p, 0, none⟩) (mergeL lu).length (firsts (mergeL lu)).length (sumW (mergeL lu)) (sumW (mergeL (mergeL lu))))).heap.size ≤ p) := hpt0
  have hs10 := hS.kept.size
  clear hpost hI hdd hbb
  have hI := hI'
  clear hI' hlkT0 hpt0
  clear b80 b81 b82 b83 b84 b8f b8l
  clear b90 b91 b92 b93 b94 b9f b9l
  have t0 := hW.trans hS
  clear hW
  have hW := t0
  clear t0
  have t0 := rA.step hS
  clear rA
  have rA := t0
  clear t0
  have t0 := rS.step hS
  clear rS
  have rS := t0
  clear t0
  have t0 := rU.step hS
  clear rU
  have rU := t0
  clear t0
  have t0 := b8.step hS
  clear b8
  have b8 := t0
  clear t0
  have t0 := b9.step hS
  clear b9
  have b9 := t0
  clear t0
  have t0 := b10.step hS
  clear b10
  have b10 := t0
  clear t0
  have t0 := qA.grow (hS).grow
  clear qA
  have qA := t0
  clear t0
  have t0 := qS.grow (hS).grow
  clear qS
  have qS := t0
  clear t0
  have t0 := qU.grow (hS).grow
  clear qU
  have qU := t0
  clear t0
  clear hS
  have b11 := BlkU.mk (W := W10) (po := p1) (l := l1) hI
  have hEa : Ext W10 (W10.alloc (recObj (p1.map fun p => ⟨p, 0, none⟩) l1.length (firsts l1).length (sumW l1) (sumW (mergeL l1)))) := (Ext.refl _).alloc _
  have t0 := hI.ext hEa
  clear hI
  have hI := t0
  clear t0
  have t0 := hW.trans (Step.of_ext (own := own10) (Ls := Ls10) hEa)
  clear hW
  have hW := t0
  clear t0
  have t0 := rA.step (Step.of_ext (own := own10) (Ls := Ls10) hEa)
  clear rA
  have rA := t0
  clear t0
  have t0 := rS.step (Step.of_ext (own := own10) (Ls := Ls10) hEa)
  clear rS
  have rS := t0
  clear t0
  have t0 := rU.step (Step.of_ext (own := own10) (Ls := Ls10) hEa)
  clear rU
  have rU := t0
  clear t0
  have t0 := b8.step (Step.of_ext (own := own10) (Ls := Ls10) hEa)
  clear b8
  have b8 := t0
  clear t0
  have t0 := b9.step (Step.of_ext (own := own10) (Ls := Ls10) hEa)
  clear b9
  have b9 := t0
  clear t0
  have t0 := b10.step (Step.of_ext (own := own10) (Ls := Ls10) hEa)
  clear b10
  have b10 := t0
  clear t0
  have t0 := qA.grow ((Step.of_ext (own := own10) (Ls := Ls10) hEa)).grow
  clear qA
  have qA := t0
  clear t0
  have t0 := qS.grow ((Step.of_ext (own := own10) (Ls := Ls10) hEa)).grow
  clear qS
  have qS := t0
  clear t0
  have t0 := qU.grow ((Step.of_ext (own := own10) (Ls := Ls10) hEa)).grow
  clear qU
  have qU := t0
  clear t0
  have t0 := qT.grow ((Step.of_ext (own := own10) (Ls := Ls10) hEa)).grow
  clear qT
  have qT := t0
  clear t0
  have hsa := hEa.size
  have hsb10 : W10.heap.size + 1 = (W10.alloc (recObj (p1.map fun p => ⟨p, 0, none⟩) l1.length (firsts l1).length (sumW l1) (sumW (mergeL l1)))).heap.size := by simp
  clear hEa hsa
  go_wp2_with fail
  refine (zzgiven_rec hI qT).mono ?_
  rintro e W11 ⟨xo, rfl, hXr, hE⟩
  have hs11 := hE.size
  have t0 := hI.ext hE
  clear hI
  have hI := t0
  clear t0
  have t0 := hW.trans (Step.of_ext (own := own10) (Ls := Ls10) hE)
  clear hW
  have hW := t0
  clear t0
  have t0 := rA.step (Step.of_ext (own := own10) (Ls := Ls10) hE)
  clear rA
  have rA := t0
  clear t0
  have t0 := rS.step (Step.of_ext (own := own10) (Ls := Ls10) hE)
  clear rS
  have rS := t0
  clear t0
  have t0 := rU.step (Step.of_ext (own := own10) (Ls := Ls10) hE)
  clear rU
  have rU := t0
  clear t0
  have t0 := b8.step (Step.of_ext (own := own10) (Ls := Ls10) hE)
  clear b8
  have b8 := t0
  clear t0
  have t0 := b9.step (Step.of_ext (own := own10) (Ls := Ls10) hE)
  clear b9
  have b9 := t0
  clear t0
  have t0 := b10.step (Step.of_ext (own := own10) (Ls := Ls10) hE)
  clear b10
  have b10 := t0
  clear t0
  have t0 := b11.step (Step.of_ext (own := own10) (Ls := Ls10) hE)
  clear b11
  have b11 := t0
  clear t0
  have t0 := qA.grow ((Step.of_ext (own := own10) (Ls := Ls10) hE)).grow
  clear qA
  have qA := t0
  clear t0
  have t0 := qS.grow ((Step.of_ext (own := own10) (Ls := Ls10) hE)).grow
  clear qS
  have qS := t0
  clear t0
  have t0 := qU.grow ((Step.of_ext (own := own10) (Ls := Ls10) hE)).grow
  clear qU
  have qU := t0
  clear t0
  have t0 := qT.grow ((Step.of_ext (own := own10) (Ls := Ls10) hE)).grow
  clear qT
  have qT := t0
  clear t0
  clear hE
  go_wp2_with fail
  have hlen := len_le_sumW l1
  refine (fromX_any xo l1.length l1.length l1 _ (by omega) rfl hXr).mono ?_
  rintro e W12 ⟨rfl, hE, hB⟩
  have rF := RowU.mk hI (Nat.le_refl _) hB.row
  have hs12 := hE.size
  have t0 := hI.ext hE
  clear hI
  have hI := t0
  clear t0
  have t0 := hW.trans (Step.of_ext (own := own10) (Ls := Ls10) hE)
  clear hW
  have hW := t0
  clear t0
  have t0 := rA.step (Step.of_ext (own := own10) (Ls := Ls10) hE)
  clear rA
  have rA := t0
  clear t0
  have t0 := rS.step (Step.of_ext (own := own10) (Ls := Ls10) hE)
  clear rS
  have rS := t0
  clear t0
  have t0 := rU.step (Step.of_ext (own := own10) (Ls := Ls10) hE)
  clear rU
  have rU := t0
  clear t0
  have t0 := b8.step (Step.of_ext (own := own10) (Ls := Ls10) hE)
  clear b8
  have b8 := t0
  clear t0
  have t0 := b9.step (Step.of_ext (own := own10) (Ls := Ls10) hE)
  clear b9
  have b9 := t0
  clear t0
  have t0 := b10.step (Step.of_ext (own := own10) (Ls := Ls10) hE)
  clear b10
  have b10 := t0
  clear t0
  have t0 := b11.step (Step.of_ext (own := own10) (Ls := Ls10) hE)
  clear b11
  have b11 := t0
  clear t0
  have t0 := qA.grow ((Step.of_ext (own := own10) (Ls := Ls10) hE)).grow
  clear qA
  have qA := t0
  clear t0
  have t0 := qS.grow ((Step.of_ext (own := own10) (Ls := Ls10) hE)).grow
  clear qS
  have qS := t0
  clear t0
  have t0 := qU.grow ((Step.of_ext (own := own10) (Ls := Ls10) hE)).grow
  clear qU
  have qU := t0
  clear t0
  have t0 := qT.grow ((Step.of_ext (own := own10) (Ls := Ls10) hE)).grow
  clear qT
  have qT := t0
  clear t0
  clear hE hB hXr hlen
  generalize hgg12 : W11.heap.size = grF at *
  clear hgg12
  obtain ⟨b110, b111, b112, b113, b114, b11f, b11l⟩ := b11.cells
  obtain ⟨b100, b101, b102, b103, b104, b10f, b10l⟩ := b10.cells
  go_wp2_with fail
  have hTU : ∀ p, p1 = some p → pu ≠ some p := fun p hx hy => by
    have h2 := HFU.out p hy
    rcases HPT.out with h | h | ⟨q, h, hq⟩
    · have h1 := HFA.out p (h ▸ hx); omega
    · have h1 := HFS.out p (h ▸ hx); omega
    · rw [h] at hx; injection hx with hx; omega
  have hdd : ∀ p, p1 = some p → pu ≠ some p := hTU
  have hbb : sumW l1 + sumW (mergeL lu) ≤ 1048576 := by omega
  refine (zzthen_of hI qT qU hdd hbb).mono ?_
  intro e W13 hpost
  obtain ⟨own13, Ls13, p2, l2, rfl, hI', qD, hlkD0, hsmD, hpt0, hS⟩ := hpost.step
  have hlkD : Hid (Like l2 (l1 ++ (mergeL lu))) := hlkD0
  have HPD : Hid (p2 = p1 ∨ p2 = pu ∨ ∃ p, p2 = some p ∧ W12.heap.size ≤ p) := hpt0
  have hs13 := hS.kept.size
  clear hpost hI hdd hbb
  have hI := hI'
  clear hI' hlkD0 hpt0
  clear b110 b111 b112 b113 b114 b11f b11l
  clear b100 b101 b102 b103 b104 b10f b10l
  have t0 := hW.trans hS
  clear hW
  have hW := t0
  clear t0
  have t0 := rA.step hS
  clear rA
  have rA := t0
  clear t0
  have t0 := rS.step hS
  clear rS
  have rS := t0
  clear t0
  have t0 := rU.step hS
  clear rU
  have rU := t0
  clear t0
  have t0 := rF.step hS
  clear rF
  have rF := t0
  clear t0
  have t0 := b8.step hS
  clear b8
  have b8 := t0
  clear t0
  have t0 := b9.step hS
  clear b9
  have b9 := t0
  clear t0
  have t0 := b10.step hS
  clear b10
  have b10 := t0
  clear t0
  have t0 := b11.step hS
  clear b11
  have b11 := t0
  clear t0
  have t0 := qA.grow (hS).grow
  clear qA
  have qA := t0
  clear t0
  have t0 := qS.grow (hS).grow
  clear qS
  have qS := t0
  clear t0
  have t0 := qU.grow (hS).grow
  clear qU
  have qU := t0
  clear t0
  have t0 := qT.grow (hS).grow
  clear qT
  have qT := t0
  clear t0
  clear hS
  obtain ⟨b80, b81, b82, b83, b84, b8f, b8l⟩ := b8.cells
  obtain ⟨b100, b101, b102, b103, b104, b10f, b10l⟩ := b10.cells
  have b13 := BlkU.mk (W := W13) (po := p2) (l := l2) hI
  have hEa : Ext W13 (W13.alloc (recObj (p2.map fun p => ⟨p, 0, none⟩) l2.length (firsts l2).length (sumW l2) (sumW (mergeL l2)))) := (Ext.refl _).alloc _
  have t0 := hI.ext hEa
  clear hI
  have hI := t0
  clear t0
  have t0 := hW.trans (Step.of_ext (own := own13) (Ls := Ls13) hEa)
  clear hW
  have hW := t0
  clear t0
  have t0 := rA.step (Step.of_ext (own := own13) (Ls := Ls13) hEa)
  clear rA
  have rA := t0
  clear t0
  have t0 := rS.step (Step.of_ext (own := own13) (Ls := Ls13) hEa)
  clear rS
  have rS := t0
  clear t0
  have t0 := rU.step (Step.of_ext (own := own13) (Ls := Ls13) hEa)
  clear rU
  have rU := t0
  clear t0
  have t0 := rF.step (Step.of_ext (own := own13) (Ls := Ls13) hEa)
  clear rF
  have rF := t0
  clear t0
  have t0 := b8.step (Step.of_ext (own := own13) (Ls := Ls13) hEa)
  clear b8
  have b8 := t0
  clear t0
  have t0 := b9.step (Step.of_ext (own := own13) (Ls := Ls13) hEa)
  clear b9
  have b9 := t0
  clear t0
  have t0 := b10.step (Step.of_ext (own := own13) (Ls := Ls13) hEa)
  clear b10
  have b10 := t0
  clear t0
  have t0 := b11.step (Step.of_ext (own := own13) (Ls := Ls13) hEa)
  clear b11
  have b11 := t0
  clear t0
  have t0 := qA.grow ((Step.of_ext (own := own13) (Ls := Ls13) hEa)).grow
  clear qA
  have qA := t0
  clear t0
  have t0 := qS.grow ((Step.of_ext (own := own13) (Ls := Ls13) hEa)).grow
  clear qS
  have qS := t0
  clear t0
  have t0 := qU.grow ((Step.of_ext (own := own13) (Ls := Ls13) hEa)).grow
  clear qU
  have qU := t0
  clear t0
  have t0 := qT.grow ((Step.of_ext (own := own13) (Ls := Ls13) hEa)).grow
  clear qT
  have qT := t0
  clear t0
  have t0 := qD.grow ((Step.of_ext (own := own13) (Ls := Ls13) hEa)).grow
  clear qD
  have qD := t0
  clear t0
  have hsa := hEa.size
  have hsb13 : W13.heap.size + 1 = (W13.alloc (recObj (p2.map fun p => ⟨p, 0, none⟩) l2.length (firsts l2).length (sumW l2) (sumW (mergeL l2)))).heap.size := by simp
  clear hEa hsa
  clear hTU
  go_wp2_with fail
  have hdd : ∀ p, pa = some p → pu ≠ some p := fun p hx hy => by have h1 := HFA.out p hx; have h2 := HFU.out p hy; omega
  have hbb : sumW (mergeL la) + sumW (mergeL lu) ≤ 1048576 := by omega
  refine (zzthen_of hI qA qU hdd hbb).mono ?_
  intro e W14 hpost
  obtain ⟨own14, Ls14, p3, l3, rfl, hI', qQ, hlkQ0, hsmQ, hpt0, hS⟩ := hpost.step
  have hlkQ : Hid (Like l3 ((mergeL la) ++ (mergeL lu))) := hlkQ0
  have HPQ : Hid (p3 = pa ∨ p3 = pu ∨ ∃ p, p3 = some p ∧ (W13.alloc (recObj (p2.map fun p => ⟨p, 0, none⟩) l2.length (firsts l2).length (sumW l2) (sumW (mergeL l2)))).heap.size ≤ p) := hpt0
  have hs14 := hS.kept.size
  clear hpost hI hdd hbb
  have hI := hI'
  clear hI' hlkQ0 hpt0
  clear b80 b81 b82 b83 b84 b8f b8l
  clear b100 b101 b102 b103 b104 b10f b10l
  have t0 := hW.trans hS
  clear hW
  have hW := t0
  clear t0
  have t0 := rA.step hS
  clear rA
  have rA := t0
  clear t0
  have t0 := rS.step hS
  clear rS
  have rS := t0
  clear t0
  have t0 := rU.step hS
  clear rU
  have rU := t0
  clear t0
  have t0 := rF.step hS
  clear rF
  have rF := t0
  clear t0
  have t0 := b8.step hS
  clear b8
  have b8 := t0
  clear t0
  have t0 := b9.step hS
  clear b9
  have b9 := t0
  clear t0
  have t0 := b10.step hS
  clear b10
  have b10 := t0
  clear t0
  have t0 := b11.step hS
  clear b11
  have b11 := t0
  clear t0
  have t0 := b13.step hS
  clear b13
  have b13 := t0
  clear t0
  have t0 := qA.grow (hS).grow
  clear qA
  have qA := t0
  clear t0
  have t0 := qS.grow (hS).grow
  clear qS
  have qS := t0
  clear t0
  have t0 := qU.grow (hS).grow
  clear qU
  have qU := t0
  clear t0
  have t0 := qT.grow (hS).grow
  clear qT
  have qT := t0
  clear t0
  have t0 := qD.grow (hS).grow
  clear qD
  have qD := t0
  clear t0
  clear hS
  have b14 := BlkU.mk (W := W14) (po := p3) (l := l3) hI
  have hEa : Ext W14 (W14.alloc (recObj (p3.map fun p => ⟨p, 0, none⟩) l3.length (firsts l3).length (sumW l3) (sumW (mergeL l3)))) := (Ext.refl _).alloc _
  have t0 := hI.ext hEa
  clear hI
  have hI := t0
  clear t0
  have t0 := hW.trans (Step.of_ext (own := own14) (Ls := Ls14) hEa)
  clear hW
  have hW := t0
  clear t0
  have t0 := rA.step (Step.of_ext (own := own14) (Ls := Ls14) hEa)
  clear rA
  have rA := t0
  clear t0
  have t0 := rS.step (Step.of_ext (own := own14) (Ls := Ls14) hEa)
  clear rS
  have rS := t0
  clear t0
  have t0 := rU.step (Step.of_ext (own := own14) (Ls := Ls14) hEa)
  clear rU
  have rU := t0
  clear t0
  have t0 := rF.step (Step.of_ext (own := own14) (Ls := Ls14) hEa)
  clear rF
  have rF := t0
  clear t0
  have t0 := b8.step (Step.of_ext (own := own14) (Ls := Ls14) hEa)
  clear b8
  have b8 := t0
  clear t0
  have t0 := b9.step (Step.of_ext (own := own14) (Ls := Ls14) hEa)
  clear b9
  have b9 := t0
  clear t0
  have t0 := b10.step (Step.of_ext (own := own14) (Ls := Ls14) hEa)
  clear b10
  have b10 := t0
  clear t0
  have t0 := b11.step (Step.of_ext (own := own14) (Ls := Ls14) hEa)
  clear b11
  have b11 := t0
  clear t0
  have t0 := b13.step (Step.of_ext (own := own14) (Ls := Ls14) hEa)
  clear b13
  have b13 := t0
  clear t0
  have t0 := qA.grow ((Step.of_ext (own := own14) (Ls := Ls14) hEa)).grow
  clear qA
  have qA := t0
  clear t0
  have t0 := qS.grow ((Step.of_ext (own := own14) (Ls := Ls14) hEa)).grow
  clear qS
  have qS := t0
  clear t0
  have t0 := qU.grow ((Step.of_ext (own := own14) (Ls := Ls14) hEa)).grow
  clear qU
  have qU := t0
  clear t0
  have t0 := qT.grow ((Step.of_ext (own := own14) (Ls := Ls14) hEa)).grow
  clear qT
  have qT := t0
  clear t0
  have t0 := qD.grow ((Step.of_ext (own := own14) (Ls := Ls14) hEa)).grow
  clear qD
  have qD := t0
  clear t0
  have t0 := qQ.grow ((Step.of_ext (own := own14) (Ls := Ls14) hEa)).grow
  clear qQ
  have qQ := t0
  clear t0
  have hsa := hEa.size
  have hsb14 : W14.heap.size + 1 = (W14.alloc (recObj (p3.map fun p => ⟨p, 0, none⟩) l3.length (firsts l3).length (sumW l3) (sumW (mergeL l3)))).heap.size := by simp
  clear hEa hsa
  go_wp2_with fail
  refine (join_any coA (na) (na) la coS (ns) (ns) ls _ (by omega) (by omega) HLA.out HLS.out rA.row rS.row).mono ?_
  rintro e W15 ⟨rfl, hJ⟩
  have rJ := RowU.mk hI hJ.ge hJ.buf.row
  have hbelow := hJ.below
  have hs15 := hbelow.size
  have t0 := hI.below hbelow
  clear hI
  have hI := t0
  clear t0
  have t0 := hW.trans (Step.of_below (own := own14) (Ls := Ls14) hbelow)
  clear hW
  have hW := t0
  clear t0
  have t0 := rA.step (Step.of_below (own := own14) (Ls := Ls14) hbelow)
  clear rA
  have rA := t0
  clear t0
  have t0 := rS.step (Step.of_below (own := own14) (Ls := Ls14) hbelow)
  clear rS
  have rS := t0
  clear t0
  have t0 := rU.step (Step.of_below (own := own14) (Ls := Ls14) hbelow)
  clear rU
  have rU := t0
  clear t0
  have t0 := rF.step (Step.of_below (own := own14) (Ls := Ls14) hbelow)
  clear rF
  have rF := t0
  clear t0
  have t0 := b8.step (Step.of_below (own := own14) (Ls := Ls14) hbelow)
  clear b8
  have b8 := t0
  clear t0
  have t0 := b9.step (Step.of_below (own := own14) (Ls := Ls14) hbelow)
  clear b9
  have b9 := t0
  clear t0
  have t0 := b10.step (Step.of_below (own := own14) (Ls := Ls14) hbelow)
  clear b10
  have b10 := t0
  clear t0
  have t0 := b11.step (Step.of_below (own := own14) (Ls := Ls14) hbelow)
  clear b11
  have b11 := t0
  clear t0
  have t0 := b13.step (Step.of_below (own := own14) (Ls := Ls14) hbelow)
  clear b13
  have b13 := t0
  clear t0
  have t0 := b14.step (Step.of_below (own := own14) (Ls := Ls14) hbelow)
  clear b14
  have b14 := t0
  clear t0
  have t0 := qA.grow ((Step.of_below (own := own14) (Ls := Ls14) hbelow)).grow
  clear qA
  have qA := t0
  clear t0
  have t0 := qS.grow ((Step.of_below (own := own14) (Ls := Ls14) hbelow)).grow
  clear qS
  have qS := t0
  clear t0
  have t0 := qU.grow ((Step.of_below (own := own14) (Ls := Ls14) hbelow)).grow
  clear qU
  have qU := t0
  clear t0
  have t0 := qT.grow ((Step.of_below (own := own14) (Ls := Ls14) hbelow)).grow
  clear qT
  have qT := t0
  clear t0
  have t0 := qD.grow ((Step.of_below (own := own14) (Ls := Ls14) hbelow)).grow
  clear qD
  have qD := t0
  clear t0
  have t0 := qQ.grow ((Step.of_below (own := own14) (Ls := Ls14) hbelow)).grow
  clear qQ
  have qQ := t0
  clear t0
  clear hbelow hJ
  generalize hgg15 : (W14.alloc (recObj (p3.map fun p => ⟨p, 0, none⟩) l3.length (firsts l3).length (sumW l3) (sumW (mergeL l3)))).heap.size = grJ at *
  clear hgg15
  obtain ⟨b80, b81, b82, b83, b84, b8f, b8l⟩ := b8.cells
  go_wp2_with fail
  refine (zzgiven_rec hI qA).mono ?_
  rintro e W16 ⟨xo, rfl, hXr, hE⟩
  have hs16 := hE.size
  have t0 := hI.ext hE
  clear hI
  have hI := t0
  clear t0
  have t0 := hW.trans (Step.of_ext (own := own14) (Ls := Ls14) hE)
  clear hW
  have hW := t0
  clear t0
  have t0 := rA.step (Step.of_ext (own := own14) (Ls := Ls14) hE)
  clear rA
  have rA := t0
  clear t0
  have t0 := rS.step (Step.of_ext (own := own14) (Ls := Ls14) hE)
  clear rS
  have rS := t0
  clear t0
  have t0 := rU.step (Step.of_ext (own := own14) (Ls := Ls14) hE)
  clear rU
  have rU := t0
  clear t0
  have t0 := rF.step (Step.of_ext (own := own14) (Ls := Ls14) hE)
  clear rF
  have rF := t0
  clear t0
  have t0 := rJ.step (Step.of_ext (own := own14) (Ls := Ls14) hE)
  clear rJ
  have rJ := t0
  clear t0
  have t0 := b8.step (Step.of_ext (own := own14) (Ls := Ls14) hE)
  clear b8
  have b8 := t0
  clear t0
  have t0 := b9.step (Step.of_ext (own := own14) (Ls := Ls14) hE)
  clear b9
  have b9 := t0
  clear t0
  have t0 := b10.step (Step.of_ext (own := own14) (Ls := Ls14) hE)
  clear b10
  have b10 := t0
  clear t0
  have t0 := b11.step (Step.of_ext (own := own14) (Ls := Ls14) hE)
  clear b11
  have b11 := t0
  clear t0
  have t0 := b13.step (Step.of_ext (own := own14) (Ls := Ls14) hE)
  clear b13
  have b13 := t0
  clear t0
  have t0 := b14.step (Step.of_ext (own := own14) (Ls := Ls14) hE)
  clear b14
  have b14 := t0
  clear t0
  have t0 := qA.grow ((Step.of_ext (own := own14) (Ls := Ls14) hE)).grow
  clear qA
  have qA := t0
  clear t0
  have t0 := qS.grow ((Step.of_ext (own := own14) (Ls := Ls14) hE)).grow
  clear qS
  have qS := t0
  clear t0
  have t0 := qU.grow ((Step.of_ext (own := own14) (Ls := Ls14) hE)).grow
  clear qU
  have qU := t0
  clear t0
  have t0 := qT.grow ((Step.of_ext (own := own14) (Ls := Ls14) hE)).grow
  clear qT
  have qT := t0
  clear t0
  have t0 := qD.grow ((Step.of_ext (own := own14) (Ls := Ls14) hE)).grow
  clear qD
  have qD := t0
  clear t0
  have t0 := qQ.grow ((Step.of_ext (own := own14) (Ls := Ls14) hE)).grow
  clear qQ
  have qQ := t0
  clear t0
  clear hE
  go_wp2_with fail
  have hlen := len_le_sumW (mergeL la)
  refine (fromX_any xo (mergeL la).length (mergeL la).length (mergeL la) _ (by omega) rfl hXr).mono ?_
  rintro e W17 ⟨rfl, hE, hB⟩
  have rG := RowU.mk hI (Nat.le_refl _) hB.row
  have hs17 := hE.size
  have t0 := hI.ext hE
  clear hI
  have hI := t0
  clear t0
  have t0 := hW.trans (Step.of_ext (own := own14) (Ls := Ls14) hE)
  clear hW
  have hW := t0
  clear t0
  have t0 := rA.step (Step.of_ext (own := own14) (Ls := Ls14) hE)
  clear rA
  have rA := t0
  clear t0
  have t0 := rS.step (Step.of_ext (own := own14) (Ls := Ls14) hE)
  clear rS
  have rS := t0
  clear t0
  have t0 := rU.step (Step.of_ext (own := own14) (Ls := Ls14) hE)
  clear rU
  have rU := t0
  clear t0
  have t0 := rF.step (Step.of_ext (own := own14) (Ls := Ls14) hE)
  clear rF
  have rF := t0
  clear t0
  have t0 := rJ.step (Step.of_ext (own := own14) (Ls := Ls14) hE)
  clear rJ
  have rJ := t0
  clear t0
  have t0 := b8.step (Step.of_ext (own := own14) (Ls := Ls14) hE)
  clear b8
  have b8 := t0
  clear t0
  have t0 := b9.step (Step.of_ext (own := own14) (Ls := Ls14) hE)
  clear b9
  have b9 := t0
  clear t0
  have t0 := b10.step (Step.of_ext (own := own14) (Ls := Ls14) hE)
  clear b10
  have b10 := t0
  clear t0
  have t0 := b11.step (Step.of_ext (own := own14) (Ls := Ls14) hE)
  clear b11
  have b11 := t0
  clear t0
  have t0 := b13.step (Step.of_ext (own := own14) (Ls := Ls14) hE)
  clear b13
  have b13 := t0
  clear t0
  have t0 := b14.step (Step.of_ext (own := own14) (Ls := Ls14) hE)
  clear b14
  have b14 := t0
  clear t0
  have t0 := qA.grow ((Step.of_ext (own := own14) (Ls := Ls14) hE)).grow
  clear qA
  have qA := t0
  clear t0
  have t0 := qS.grow ((Step.of_ext (own := own14) (Ls := Ls14) hE)).grow
  clear qS
  have qS := t0
  clear t0
  have t0 := qU.grow ((Step.of_ext (own := own14) (Ls := Ls14) hE)).grow
  clear qU
  have qU := t0
  clear t0
  have t0 := qT.grow ((Step.of_ext (own := own14) (Ls := Ls14) hE)).grow
  clear qT
  have qT := t0
  clear t0
  have t0 := qD.grow ((Step.of_ext (own := own14) (Ls := Ls14) hE)).grow
  clear qD
  have qD := t0
  clear t0
  have t0 := qQ.grow ((Step.of_ext (own := own14) (Ls := Ls14) hE)).grow
  clear qQ
  have qQ := t0
  clear t0
  clear hE hB hXr hlen
  generalize hgg17 : W16.heap.size = grG at *
  clear hgg17
  clear b80 b81 b82 b83 b84 b8f b8l
  go_wp2_with fail
  refine (model_any coA (na) (na) la _ (by omega) HLA.out rA.row (sizes_of (by omega))).mono ?_
  rintro e W18 ⟨grM, rfl, hgg, hB, hbelow⟩
  have rM := RowU.mk hI hgg hB.row
  have hs18 := hbelow.size
  have t0 := hI.below hbelow
  clear hI
  have hI := t0
  clear t0
  have t0 := hW.trans (Step.of_below (own := own14) (Ls := Ls14) hbelow)
  clear hW
  have hW := t0
  clear t0
  have t0 := rA.step (Step.of_below (own := own14) (Ls := Ls14) hbelow)
  clear rA
  have rA := t0
  clear t0
  have t0 := rS.step (Step.of_below (own := own14) (Ls := Ls14) hbelow)
  clear rS
  have rS := t0
  clear t0
  have t0 := rU.step (Step.of_below (own := own14) (Ls := Ls14) hbelow)
  clear rU
  have rU := t0
  clear t0
  have t0 := rF.step (Step.of_below (own := own14) (Ls := Ls14) hbelow)
  clear rF
  have rF := t0
  clear t0
  have t0 := rJ.step (Step.of_below (own := own14) (Ls := Ls14) hbelow)
  clear rJ
  have rJ := t0
  clear t0
  have t0 := rG.step (Step.of_below (own := own14) (Ls := Ls14) hbelow)
  clear rG
  have rG := t0
  clear t0
  have t0 := b8.step (Step.of_below (own := own14) (Ls := Ls14) hbelow)
  clear b8
  have b8 := t0
  clear t0
  have t0 := b9.step (Step.of_below (own := own14) (Ls := Ls14) hbelow)
  clear b9
  have b9 := t0
  clear t0
  have t0 := b10.step (Step.of_below (own := own14) (Ls := Ls14) hbelow)
  clear b10
  have b10 := t0
  clear t0
  have t0 := b11.step (Step.of_below (own := own14) (Ls := Ls14) hbelow)
  clear b11
  have b11 := t0
  clear t0
  have t0 := b13.step (Step.of_below (own := own14) (Ls := Ls14) hbelow)
  clear b13
  have b13 := t0
  clear t0
  have t0 := b14.step (Step.of_below (own := own14) (Ls := Ls14) hbelow)
  clear b14
  have b14 := t0
  clear t0
  have t0 := qA.grow ((Step.of_below (own := own14) (Ls := Ls14) hbelow)).grow
  clear qA
  have qA := t0
  clear t0
  have t0 := qS.grow ((Step.of_below (own := own14) (Ls := Ls14) hbelow)).grow
  clear qS
  have qS := t0
  clear t0
  have t0 := qU.grow ((Step.of_below (own := own14) (Ls := Ls14) hbelow)).grow
  clear qU
  have qU := t0
  clear t0
  have t0 := qT.grow ((Step.of_below (own := own14) (Ls := Ls14) hbelow)).grow
  clear qT
  have qT := t0
  clear t0
  have t0 := qD.grow ((Step.of_below (own := own14) (Ls := Ls14) hbelow)).grow
  clear qD
  have qD := t0
  clear t0
  have t0 := qQ.grow ((Step.of_below (own := own14) (Ls := Ls14) hbelow)).grow
  clear qQ
  have qQ := t0
  clear t0
  clear hbelow hB hgg
  go_wp2_with fail
  have hmla : (mergeL la).length ≤ 400000 := by rw [merge_len]; have := firsts_le la; have := HLA.out; omega
  refine (equal_any (some ⟨grG, 0, none⟩) (mergeL la).length (mergeL la).length (mergeL la) (some ⟨grM, 0, none⟩) (mergeL la).length (mergeL la).length (mergeL la) _ (hmla) (hmla) rfl rfl rG.row rM.row (rfl)).mono ?_
  rintro e W19 ⟨rfl, hE⟩
  have hs19 := hE.size
  have t0 := hI.ext hE
  clear hI
  have hI := t0
  clear t0
  have t0 := hW.trans (Step.of_ext (own := own14) (Ls := Ls14) hE)
  clear hW
  have hW := t0
  clear t0
  have t0 := rA.step (Step.of_ext (own := own14) (Ls := Ls14) hE)
  clear rA
  have rA := t0
  clear t0
  have t0 := rS.step (Step.of_ext (own := own14) (Ls := Ls14) hE)
  clear rS
  have rS := t0
  clear t0
  have t0 := rU.step (Step.of_ext (own := own14) (Ls := Ls14) hE)
  clear rU
  have rU := t0
  clear t0
  have t0 := rF.step (Step.of_ext (own := own14) (Ls := Ls14) hE)
  clear rF
  have rF := t0
  clear t0
  have t0 := rJ.step (Step.of_ext (own := own14) (Ls := Ls14) hE)
  clear rJ
  have rJ := t0
  clear t0
  have t0 := rG.step (Step.of_ext (own := own14) (Ls := Ls14) hE)
  clear rG
  have rG := t0
  clear t0
  have t0 := rM.step (Step.of_ext (own := own14) (Ls := Ls14) hE)
  clear rM
  have rM := t0
  clear t0
  have t0 := b8.step (Step.of_ext (own := own14) (Ls := Ls14) hE)
  clear b8
  have b8 := t0
  clear t0
  have t0 := b9.step (Step.of_ext (own := own14) (Ls := Ls14) hE)
  clear b9
  have b9 := t0
  clear t0
  have t0 := b10.step (Step.of_ext (own := own14) (Ls := Ls14) hE)
  clear b10
  have b10 := t0
  clear t0
  have t0 := b11.step (Step.of_ext (own := own14) (Ls := Ls14) hE)
  clear b11
  have b11 := t0
  clear t0
  have t0 := b13.step (Step.of_ext (own := own14) (Ls := Ls14) hE)
  clear b13
  have b13 := t0
  clear t0
  have t0 := b14.step (Step.of_ext (own := own14) (Ls := Ls14) hE)
  clear b14
  have b14 := t0
  clear t0
  have t0 := qA.grow ((Step.of_ext (own := own14) (Ls := Ls14) hE)).grow
  clear qA
  have qA := t0
  clear t0
  have t0 := qS.grow ((Step.of_ext (own := own14) (Ls := Ls14) hE)).grow
  clear qS
  have qS := t0
  clear t0
  have t0 := qU.grow ((Step.of_ext (own := own14) (Ls := Ls14) hE)).grow
  clear qU
  have qU := t0
  clear t0
  have t0 := qT.grow ((Step.of_ext (own := own14) (Ls := Ls14) hE)).grow
  clear qT
  have qT := t0
  clear t0
  have t0 := qD.grow ((Step.of_ext (own := own14) (Ls := Ls14) hE)).grow
  clear qD
  have qD := t0
  clear t0
  have t0 := qQ.grow ((Step.of_ext (own := own14) (Ls := Ls14) hE)).grow
  clear qQ
  have qQ := t0
  clear t0
  clear hE
  clear rG
  clear rM
  obtain ⟨b110, b111, b112, b113, b114, b11f, b11l⟩ := b11.cells
  go_wp2_with fail
  refine (zzgiven_rec hI qT).mono ?_
  rintro e W20 ⟨xo, rfl, hXr, hE⟩
  have hs20 := hE.size
  have t0 := hI.ext hE
  clear hI
  have hI := t0
  clear t0
  have t0 := hW.trans (Step.of_ext (own := own14) (Ls := Ls14) hE)
  clear hW
  have hW := t0
  clear t0
  have t0 := rA.step (Step.of_ext (own := own14) (Ls := Ls14) hE)
  clear rA
  have rA := t0
  clear t0
  have t0 := rS.step (Step.of_ext (own := own14) (Ls := Ls14) hE)
  clear rS
  have rS := t0
  clear t0
  have t0 := rU.step (Step.of_ext (own := own14) (Ls := Ls14) hE)
  clear rU
  have rU := t0
  clear t0
  have t0 := rF.step (Step.of_ext (own := own14) (Ls := Ls14) hE)
  clear rF
  have rF := t0
  clear t0
  have t0 := rJ.step (Step.of_ext (own := own14) (Ls := Ls14) hE)
  clear rJ
  have rJ := t0
  clear t0
  have t0 := b8.step (Step.of_ext (own := own14) (Ls := Ls14) hE)
  clear b8
  have b8 := t0
  clear t0
  have t0 := b9.step (Step.of_ext (own := own14) (Ls := Ls14) hE)
  clear b9
  have b9 := t0
  clear t0
  have t0 := b10.step (Step.of_ext (own := own14) (Ls := Ls14) hE)
  clear b10
  have b10 := t0
  clear t0
  have t0 := b11.step (Step.of_ext (own := own14) (Ls := Ls14) hE)
  clear b11
  have b11 := t0
  clear t0
  have t0 := b13.step (Step.of_ext (own := own14) (Ls := Ls14) hE)
  clear b13
  have b13 := t0
  clear t0
  have t0 := b14.step (Step.of_ext (own := own14) (Ls := Ls14) hE)
  clear b14
  have b14 := t0
  clear t0
  have t0 := qA.grow ((Step.of_ext (own := own14) (Ls := Ls14) hE)).grow
  clear qA
  have qA := t0
  clear t0
  have t0 := qS.grow ((Step.of_ext (own := own14) (Ls := Ls14) hE)).grow
  clear qS
  have qS := t0
  clear t0
  have t0 := qU.grow ((Step.of_ext (own := own14) (Ls := Ls14) hE)).grow
  clear qU
  have qU := t0
  clear t0
  have t0 := qT.grow ((Step.of_ext (own := own14) (Ls := Ls14) hE)).grow
  clear qT
  have qT := t0
  clear t0
  have t0 := qD.grow ((Step.of_ext (own := own14) (Ls := Ls14) hE)).grow
  clear qD
  have qD := t0
  clear t0
  have t0 := qQ.grow ((Step.of_ext (own := own14) (Ls := Ls14) hE)).grow
  clear qQ
  have qQ := t0
  clear t0
  clear hE
  go_wp2_with fail
  have hlen := len_le_sumW l1
  refine (fromX_any xo l1.length l1.length l1 _ (by omega) rfl hXr).mono ?_
  rintro e W21 ⟨rfl, hE, hB⟩
  have rG := RowU.mk hI (Nat.le_refl _) hB.row
  have hs21 := hE.size
  have t0 := hI.ext hE
  clear hI
  have hI := t0
  clear t0
  have t0 := hW.trans (Step.of_ext (own := own14) (Ls := Ls14) hE)
  clear hW
  have hW := t0
  clear t0
  have t0 := rA.step (Step.of_ext (own := own14) (Ls := Ls14) hE)
  clear rA
  have rA := t0
  clear t0
  have t0 := rS.step (Step.of_ext (own := own14) (Ls := Ls14) hE)
  clear rS
  have rS := t0
  clear t0
  have t0 := rU.step (Step.of_ext (own := own14) (Ls := Ls14) hE)
  clear rU
  have rU := t0
  clear t0
  have t0 := rF.step (Step.of_ext (own := own14) (Ls := Ls14) hE)
  clear rF
  have rF := t0
  clear t0
  have t0 := rJ.step (Step.of_ext (own := own14) (Ls := Ls14) hE)
  clear rJ
  have rJ := t0
  clear t0
  have t0 := b8.step (Step.of_ext (own := own14) (Ls := Ls14) hE)
  clear b8
  have b8 := t0
  clear t0
  have t0 := b9.step (Step.of_ext (own := own14) (Ls := Ls14) hE)
  clear b9
  have b9 := t0
  clear t0
  have t0 := b10.step (Step.of_ext (own := own14) (Ls := Ls14) hE)
  clear b10
  have b10 := t0
  clear t0
  have t0 := b11.step (Step.of_ext (own := own14) (Ls := Ls14) hE)
  clear b11
  have b11 := t0
  clear t0
  have t0 := b13.step (Step.of_ext (own := own14) (Ls := Ls14) hE)
  clear b13
  have b13 := t0
  clear t0
  have t0 := b14.step (Step.of_ext (own := own14) (Ls := Ls14) hE)
  clear b14
  have b14 := t0
  clear t0
  have t0 := qA.grow ((Step.of_ext (own := own14) (Ls := Ls14) hE)).grow
  clear qA
  have qA := t0
  clear t0
  have t0 := qS.grow ((Step.of_ext (own := own14) (Ls := Ls14) hE)).grow
  clear qS
  have qS := t0
  clear t0
  have t0 := qU.grow ((Step.of_ext (own := own14) (Ls := Ls14) hE)).grow
  clear qU
  have qU := t0
  clear t0
  have t0 := qT.grow ((Step.of_ext (own := own14) (Ls := Ls14) hE)).grow
  clear qT
  have qT := t0
  clear t0
  have t0 := qD.grow ((Step.of_ext (own := own14) (Ls := Ls14) hE)).grow
  clear qD
  have qD := t0
  clear t0
  have t0 := qQ.grow ((Step.of_ext (own := own14) (Ls := Ls14) hE)).grow
  clear qQ
  have qQ := t0
  clear t0
  clear hE hB hXr hlen
  generalize hgg21 : W20.heap.size = grG at *
  clear hgg21
  clear b110 b111 b112 b113 b114 b11f b11l
  go_wp2_with fail
  have hl1 := len_le_sumW l1
  refine (equal_any (some ⟨grG, 0, none⟩) l1.length l1.length l1 (some ⟨grF, 0, none⟩) l1.length l1.length l1 _ (by omega) (by omega) rfl rfl rG.row rF.row (rfl)).mono ?_
  rintro e W22 ⟨rfl, hE⟩
  have hs22 := hE.size
  have t0 := hI.ext hE
  clear hI
  have hI := t0
  clear t0
  have t0 := hW.trans (Step.of_ext (own := own14) (Ls := Ls14) hE)
  clear hW
  have hW := t0
  clear t0
  have t0 := rA.step (Step.of_ext (own := own14) (Ls := Ls14) hE)
  clear rA
  have rA := t0
  clear t0
  have t0 := rS.step (Step.of_ext (own := own14) (Ls := Ls14) hE)
  clear rS
  have rS := t0
  clear t0
  have t0 := rU.step (Step.of_ext (own := own14) (Ls := Ls14) hE)
  clear rU
  have rU := t0
  clear t0
  have t0 := rF.step (Step.of_ext (own := own14) (Ls := Ls14) hE)
  clear rF
  have rF := t0
  clear t0
  have t0 := rJ.step (Step.of_ext (own := own14) (Ls := Ls14) hE)
  clear rJ
  have rJ := t0
  clear t0
  have t0 := rG.step (Step.of_ext (own := own14) (Ls := Ls14) hE)
  clear rG
  have rG := t0
  clear t0
  have t0 := b8.step (Step.of_ext (own := own14) (Ls := Ls14) hE)
  clear b8
  have b8 := t0
  clear t0
  have t0 := b9.step (Step.of_ext (own := own14) (Ls := Ls14) hE)
  clear b9
  have b9 := t0
  clear t0
  have t0 := b10.step (Step.of_ext (own := own14) (Ls := Ls14) hE)
  clear b10
  have b10 := t0
  clear t0
  have t0 := b11.step (Step.of_ext (own := own14) (Ls := Ls14) hE)
  clear b11
  have b11 := t0
  clear t0
  have t0 := b13.step (Step.of_ext (own := own14) (Ls := Ls14) hE)
  clear b13
  have b13 := t0
  clear t0
  have t0 := b14.step (Step.of_ext (own := own14) (Ls := Ls14) hE)
  clear b14
  have b14 := t0
  clear t0
  have t0 := qA.grow ((Step.of_ext (own := own14) (Ls := Ls14) hE)).grow
  clear qA
  have qA := t0
  clear t0
  have t0 := qS.grow ((Step.of_ext (own := own14) (Ls := Ls14) hE)).grow
  clear qS
  have qS := t0
  clear t0
  have t0 := qU.grow ((Step.of_ext (own := own14) (Ls := Ls14) hE)).grow
  clear qU
  have qU := t0
  clear t0
  have t0 := qT.grow ((Step.of_ext (own := own14) (Ls := Ls14) hE)).grow
  clear qT
  have qT := t0
  clear t0
  have t0 := qD.grow ((Step.of_ext (own := own14) (Ls := Ls14) hE)).grow
  clear qD
  have qD := t0
  clear t0
  have t0 := qQ.grow ((Step.of_ext (own := own14) (Ls := Ls14) hE)).grow
  clear qQ
  have qQ := t0
  clear t0
  clear hE
  clear rG
  go_wp2_with fail
  refine (model_any (some ⟨grF, 0, none⟩) (l1.length) (l1.length) l1 _ (by omega) rfl rF.row (sizes_of (by omega))).mono ?_
  rintro e W23 ⟨grM, rfl, hgg, hB, hbelow⟩
  have rM := RowU.mk hI hgg hB.row
  have hs23 := hbelow.size
  have t0 := hI.below hbelow
  clear hI
  have hI := t0
  clear t0
  have t0 := hW.trans (Step.of_below (own := own14) (Ls := Ls14) hbelow)
  clear hW
  have hW := t0
  clear t0
  have t0 := rA.step (Step.of_below (own := own14) (Ls := Ls14) hbelow)
  clear rA
  have rA := t0
  clear t0
  have t0 := rS.step (Step.of_below (own := own14) (Ls := Ls14) hbelow)
  clear rS
  have rS := t0
  clear t0
  have t0 := rU.step (Step.of_below (own := own14) (Ls := Ls14) hbelow)
  clear rU
  have rU := t0
  clear t0
  have t0 := rF.step (Step.of_below (own := own14) (Ls := Ls14) hbelow)
  clear rF
  have rF := t0
  clear t0
  have t0 := rJ.step (Step.of_below (own := own14) (Ls := Ls14) hbelow)
  clear rJ
  have rJ := t0
  clear t0
  have t0 := b8.step (Step.of_below (own := own14) (Ls := Ls14) hbelow)
  clear b8
  have b8 := t0
  clear t0
  have t0 := b9.step (Step.of_below (own := own14) (Ls := Ls14) hbelow)
  clear b9
  have b9 := t0
  clear t0
  have t0 := b10.step (Step.of_below (own := own14) (Ls := Ls14) hbelow)
  clear b10
  have b10 := t0
  clear t0
  have t0 := b11.step (Step.of_below (own := own14) (Ls := Ls14) hbelow)
  clear b11
  have b11 := t0
  clear t0
  have t0 := b13.step (Step.of_below (own := own14) (Ls := Ls14) hbelow)
  clear b13
  have b13 := t0
  clear t0
  have t0 := b14.step (Step.of_below (own := own14) (Ls := Ls14) hbelow)
  clear b14
  have b14 := t0
  clear t0
  have t0 := qA.grow ((Step.of_below (own := own14) (Ls := Ls14) hbelow)).grow
  clear qA
  have qA := t0
  clear t0
  have t0 := qS.grow ((Step.of_below (own := own14) (Ls := Ls14) hbelow)).grow
  clear qS
  have qS := t0
  clear t0
  have t0 := qU.grow ((Step.of_below (own := own14) (Ls := Ls14) hbelow)).grow
  clear qU
  have qU := t0
  clear t0
  have t0 := qT.grow ((Step.of_below (own := own14) (Ls := Ls14) hbelow)).grow
  clear qT
  have qT := t0
  clear t0
  have t0 := qD.grow ((Step.of_below (own := own14) (Ls := Ls14) hbelow)).grow
  clear qD
  have qD := t0
  clear t0
  have t0 := qQ.grow ((Step.of_below (own := own14) (Ls := Ls14) hbelow)).grow
  clear qQ
  have qQ := t0
  clear t0
  clear hbelow hB hgg
  go_wp2_with fail
  have hsJ : sumW (la ++ ls) ≤ 1048576 := by rw [sumW_append]; omega
  have hlJ : Hid ((la ++ ls).length = na + ns) := by show _ = _; rw [List.length_append, HLA.out, HLS.out]
  refine (model_any (some ⟨grJ, 0, none⟩) (na + ns) (na + ns) (la ++ ls) _ (by omega) hlJ.out rJ.row (sizes_of (hsJ))).mono ?_
  rintro e W24 ⟨grN, rfl, hgg, hB, hbelow⟩
  have rN := RowU.mk hI hgg hB.row
  have hs24 := hbelow.size
  have t0 := hI.below hbelow
  clear hI
  have hI := t0
  clear t0
  have t0 := hW.trans (Step.of_below (own := own14) (Ls := Ls14) hbelow)
  clear hW
  have hW := t0
  clear t0
  have t0 := rA.step (Step.of_below (own := own14) (Ls := Ls14) hbelow)
  clear rA
  have rA := t0
  clear t0
  have t0 := rS.step (Step.of_below (own := own14) (Ls := Ls14) hbelow)
  clear rS
  have rS := t0
  clear t0
  have t0 := rU.step (Step.of_below (own := own14) (Ls := Ls14) hbelow)
  clear rU
  have rU := t0
  clear t0
  have t0 := rF.step (Step.of_below (own := own14) (Ls := Ls14) hbelow)
  clear rF
  have rF := t0
  clear t0
  have t0 := rJ.step (Step.of_below (own := own14) (Ls := Ls14) hbelow)
  clear rJ
  have rJ := t0
  clear t0
  have t0 := rM.step (Step.of_below (own := own14) (Ls := Ls14) hbelow)
  clear rM
  have rM := t0
  clear t0
  have t0 := b8.step (Step.of_below (own := own14) (Ls := Ls14) hbelow)
  clear b8
  have b8 := t0
  clear t0
  have t0 := b9.step (Step.of_below (own := own14) (Ls := Ls14) hbelow)
  clear b9
  have b9 := t0
  clear t0
  have t0 := b10.step (Step.of_below (own := own14) (Ls := Ls14) hbelow)
  clear b10
  have b10 := t0
  clear t0
  have t0 := b11.step (Step.of_below (own := own14) (Ls := Ls14) hbelow)
  clear b11
  have b11 := t0
  clear t0
  have t0 := b13.step (Step.of_below (own := own14) (Ls := Ls14) hbelow)
  clear b13
  have b13 := t0
  clear t0
  have t0 := b14.step (Step.of_below (own := own14) (Ls := Ls14) hbelow)
  clear b14
  have b14 := t0
  clear t0
  have t0 := qA.grow ((Step.of_below (own := own14) (Ls := Ls14) hbelow)).grow
  clear qA
  have qA := t0
  clear t0
  have t0 := qS.grow ((Step.of_below (own := own14) (Ls := Ls14) hbelow)).grow
  clear qS
  have qS := t0
  clear t0
  have t0 := qU.grow ((Step.of_below (own := own14) (Ls := Ls14) hbelow)).grow
  clear qU
  have qU := t0
  clear t0
  have t0 := qT.grow ((Step.of_below (own := own14) (Ls := Ls14) hbelow)).grow
  clear qT
  have qT := t0
  clear t0
  have t0 := qD.grow ((Step.of_below (own := own14) (Ls := Ls14) hbelow)).grow
  clear qD
  have qD := t0
  clear t0
  have t0 := qQ.grow ((Step.of_below (own := own14) (Ls := Ls14) hbelow)).grow
  clear qQ
  have qQ := t0
  clear t0
  clear hbelow hB hgg
  go_wp2_with fail
  have hlkJ : Hid (Like l1 (la ++ ls)) := hlkT.out.trans ((Like.merged la).append (Like.merged ls))
  have hm1 : (mergeL l1).length ≤ 400000 := by rw [merge_len]; have := firsts_le l1; omega
  have hm2 : (mergeL (la ++ ls)).length ≤ 400000 := by rw [merge_len]; have := firsts_le (la ++ ls); have := hlJ.out; omega
  refine (equal_any (some ⟨grM, 0, none⟩) (mergeL l1).length (mergeL l1).length (mergeL l1) (some ⟨grN, 0, none⟩) (mergeL (la ++ ls)).length (mergeL (la ++ ls)).length (mergeL (la ++ ls)) _ (hm1) (hm2) rfl rfl rM.row rN.row (hlkJ.out.merge)).mono ?_
  rintro e W25 ⟨rfl, hE⟩
  have hs25 := hE.size
  have t0 := hI.ext hE
  clear hI
  have hI := t0
  clear t0
  have t0 := hW.trans (Step.of_ext (own := own14) (Ls := Ls14) hE)
  clear hW
  have hW := t0
  clear t0
  have t0 := rA.step (Step.of_ext (own := own14) (Ls := Ls14) hE)
  clear rA
  have rA := t0
  clear t0
  have t0 := rS.step (Step.of_ext (own := own14) (Ls := Ls14) hE)
  clear rS
  have rS := t0
  clear t0
  have t0 := rU.step (Step.of_ext (own := own14) (Ls := Ls14) hE)
  clear rU
  have rU := t0
  clear t0
  have t0 := rF.step (Step.of_ext (own := own14) (Ls := Ls14) hE)
  clear rF
  have rF := t0
  clear t0
  have t0 := rJ.step (Step.of_ext (own := own14) (Ls := Ls14) hE)
  clear rJ
  have rJ := t0
  clear t0
  have t0 := rM.step (Step.of_ext (own := own14) (Ls := Ls14) hE)
  clear rM
  have rM := t0
  clear t0
  have t0 := rN.step (Step.of_ext (own := own14) (Ls := Ls14) hE)
  clear rN
  have rN := t0
  clear t0
  have t0 := b8.step (Step.of_ext (own := own14) (Ls := Ls14) hE)
  clear b8
  have b8 := t0
  clear t0
  have t0 := b9.step (Step.of_ext (own := own14) (Ls := Ls14) hE)
  clear b9
  have b9 := t0
  clear t0
  have t0 := b10.step (Step.of_ext (own := own14) (Ls := Ls14) hE)
  clear b10
  have b10 := t0
  clear t0
  have t0 := b11.step (Step.of_ext (own := own14) (Ls := Ls14) hE)
  clear b11
  have b11 := t0
  clear t0
  have t0 := b13.step (Step.of_ext (own := own14) (Ls := Ls14) hE)
  clear b13
  have b13 := t0
  clear t0
  have t0 := b14.step (Step.of_ext (own := own14) (Ls := Ls14) hE)
  clear b14
  have b14 := t0
  clear t0
  have t0 := qA.grow ((Step.of_ext (own := own14) (Ls := Ls14) hE)).grow
  clear qA
  have qA := t0
  clear t0
  have t0 := qS.grow ((Step.of_ext (own := own14) (Ls := Ls14) hE)).grow
  clear qS
  have qS := t0
  clear t0
  have t0 := qU.grow ((Step.of_ext (own := own14) (Ls := Ls14) hE)).grow
  clear qU
  have qU := t0
  clear t0
  have t0 := qT.grow ((Step.of_ext (own := own14) (Ls := Ls14) hE)).grow
  clear qT
  have qT := t0
  clear t0
  have t0 := qD.grow ((Step.of_ext (own := own14) (Ls := Ls14) hE)).grow
  clear qD
  have qD := t0
  clear t0
  have t0 := qQ.grow ((Step.of_ext (own := own14) (Ls := Ls14) hE)).grow
  clear qQ
  have qQ := t0
  clear t0
  clear hE
  clear rM
  clear rN
  obtain ⟨b130, b131, b132, b133, b134, b13f, b13l⟩ := b13.cells
  go_wp2_with fail
  refine (zzgiven_rec hI qD).mono ?_
  rintro e W26 ⟨xo, rfl, hXr, hE⟩
  have hs26 := hE.size
  have t0 := hI.ext hE
  clear hI
  have hI := t0
  clear t0
  have t0 := hW.trans (Step.of_ext (own := own14) (Ls := Ls14) hE)
  clear hW
  have hW := t0
  clear t0
  have t0 := rA.step (Step.of_ext (own := own14) (Ls := Ls14) hE)
  clear rA
  have rA := t0
  clear t0
  have t0 := rS.step (Step.of_ext (own := own14) (Ls := Ls14) hE)
  clear rS
  have rS := t0
  clear t0
  have t0 := rU.step (Step.of_ext (own := own14) (Ls := Ls14) hE)
  clear rU
  have rU := t0
  clear t0
  have t0 := rF.step (Step.of_ext (own := own14) (Ls := Ls14) hE)
  clear rF
  have rF := t0
  clear t0
  have t0 := rJ.step (Step.of_ext (own := own14) (Ls := Ls14) hE)
  clear rJ
  have rJ := t0
  clear t0
  have t0 := b8.step (Step.of_ext (own := own14) (Ls := Ls14) hE)
  clear b8
  have b8 := t0
  clear t0
  have t0 := b9.step (Step.of_ext (own := own14) (Ls := Ls14) hE)
  clear b9
  have b9 := t0
  clear t0
  have t0 := b10.step (Step.of_ext (own := own14) (Ls := Ls14) hE)
  clear b10
  have b10 := t0
  clear t0
  have t0 := b11.step (Step.of_ext (own := own14) (Ls := Ls14) hE)
  clear b11
  have b11 := t0
  clear t0
  have t0 := b13.step (Step.of_ext (own := own14) (Ls := Ls14) hE)
  clear b13
  have b13 := t0
  clear t0
  have t0 := b14.step (Step.of_ext (own := own14) (Ls := Ls14) hE)
  clear b14
  have b14 := t0
  clear t0
  have t0 := qA.grow ((Step.of_ext (own := own14) (Ls := Ls14) hE)).grow
  clear qA
  have qA := t0
  clear t0
  have t0 := qS.grow ((Step.of_ext (own := own14) (Ls := Ls14) hE)).grow
  clear qS
  have qS := t0
  clear t0
  have t0 := qU.grow ((Step.of_ext (own := own14) (Ls := Ls14) hE)).grow
  clear qU
  have qU := t0
  clear t0
  have t0 := qT.grow ((Step.of_ext (own := own14) (Ls := Ls14) hE)).grow
  clear qT
  have qT := t0
  clear t0
  have t0 := qD.grow ((Step.of_ext (own := own14) (Ls := Ls14) hE)).grow
  clear qD
  have qD := t0
  clear t0
  have t0 := qQ.grow ((Step.of_ext (own := own14) (Ls := Ls14) hE)).grow
  clear qQ
  have qQ := t0
  clear t0
  clear hE
  go_wp2_with fail
  have hlen := len_le_sumW l2
  refine (fromX_any xo l2.length l2.length l2 _ (by omega) rfl hXr).mono ?_
  rintro e W27 ⟨rfl, hE, hB⟩
  have rG := RowU.mk hI (Nat.le_refl _) hB.row
  have hs27 := hE.size
  have t0 := hI.ext hE
  clear hI
  have hI := t0
  clear t0
  have t0 := hW.trans (Step.of_ext (own := own14) (Ls := Ls14) hE)
  clear hW
  have hW := t0
  clear t0
  have t0 := rA.step (Step.of_ext (own := own14) (Ls := Ls14) hE)
  clear rA
  have rA := t0
  clear t0
  have t0 := rS.step (Step.of_ext (own := own14) (Ls := Ls14) hE)
  clear rS
  have rS := t0
  clear t0
  have t0 := rU.step (Step.of_ext (own := own14) (Ls := Ls14) hE)
  clear rU
  have rU := t0
  clear t0
  have t0 := rF.step (Step.of_ext (own := own14) (Ls := Ls14) hE)
  clear rF
  have rF := t0
  clear t0
  have t0 := rJ.step (Step.of_ext (own := own14) (Ls := Ls14) hE)
  clear rJ
  have rJ := t0
  clear t0
  have t0 := b8.step (Step.of_ext (own := own14) (Ls := Ls14) hE)
  clear b8
  have b8 := t0
  clear t0
  have t0 := b9.step (Step.of_ext (own := own14) (Ls := Ls14) hE)
  clear b9
  have b9 := t0
  clear t0
  have t0 := b10.step (Step.of_ext (own := own14) (Ls := Ls14) hE)
  clear b10
  have b10 := t0
  clear t0
  have t0 := b11.step (Step.of_ext (own := own14) (Ls := Ls14) hE)
  clear b11
  have b11 := t0
  clear t0
  have t0 := b13.step (Step.of_ext (own := own14) (Ls := Ls14) hE)
  clear b13
  have b13 := t0
  clear t0
  have t0 := b14.step (Step.of_ext (own := own14) (Ls := Ls14) hE)
  clear b14
  have b14 := t0
  clear t0
  have t0 := qA.grow ((Step.of_ext (own := own14) (Ls := Ls14) hE)).grow
  clear qA
  have qA := t0
  clear t0
  have t0 := qS.grow ((Step.of_ext (own := own14) (Ls := Ls14) hE)).grow
  clear qS
  have qS := t0
  clear t0
  have t0 := qU.grow ((Step.of_ext (own := own14) (Ls := Ls14) hE)).grow
  clear qU
  have qU := t0
  clear t0
  have t0 := qT.grow ((Step.of_ext (own := own14) (Ls := Ls14) hE)).grow
  clear qT
  have qT := t0
  clear t0
  have t0 := qD.grow ((Step.of_ext (own := own14) (Ls := Ls14) hE)).grow
  clear qD
  have qD := t0
  clear t0
  have t0 := qQ.grow ((Step.of_ext (own := own14) (Ls := Ls14) hE)).grow
  clear qQ
  have qQ := t0
  clear t0
  clear hE hB hXr hlen
  generalize hgg27 : W26.heap.size = grG at *
  clear hgg27
  clear b130 b131 b132 b133 b134 b13f b13l
  obtain ⟨b140, b141, b142, b143, b144, b14f, b14l⟩ := b14.cells
  go_wp2_with fail
  refine (zzgiven_rec hI qQ).mono ?_
  rintro e W28 ⟨xo, rfl, hXr, hE⟩
  have hs28 := hE.size
  have t0 := hI.ext hE
  clear hI
  have hI := t0
  clear t0
  have t0 := hW.trans (Step.of_ext (own := own14) (Ls := Ls14) hE)
  clear hW
  have hW := t0
  clear t0
  have t0 := rA.step (Step.of_ext (own := own14) (Ls := Ls14) hE)
  clear rA
  have rA := t0
  clear t0
  have t0 := rS.step (Step.of_ext (own := own14) (Ls := Ls14) hE)
  clear rS
  have rS := t0
  clear t0
  have t0 := rU.step (Step.of_ext (own := own14) (Ls := Ls14) hE)
  clear rU
  have rU := t0
  clear t0
  have t0 := rF.step (Step.of_ext (own := own14) (Ls := Ls14) hE)
  clear rF
  have rF := t0
  clear t0
  have t0 := rJ.step (Step.of_ext (own := own14) (Ls := Ls14) hE)
  clear rJ
  have rJ := t0
  clear t0
  have t0 := rG.step (Step.of_ext (own := own14) (Ls := Ls14) hE)
  clear rG
  have rG := t0
  clear t0
  have t0 := b8.step (Step.of_ext (own := own14) (Ls := Ls14) hE)
  clear b8
  have b8 := t0
  clear t0
  have t0 := b9.step (Step.of_ext (own := own14) (Ls := Ls14) hE)
  clear b9
  have b9 := t0
  clear t0
  have t0 := b10.step (Step.of_ext (own := own14) (Ls := Ls14) hE)
  clear b10
  have b10 := t0
  clear t0
  have t0 := b11.step (Step.of_ext (own := own14) (Ls := Ls14) hE)
  clear b11
  have b11 := t0
  clear t0
  have t0 := b13.step (Step.of_ext (own := own14) (Ls := Ls14) hE)
  clear b13
  have b13 := t0
  clear t0
  have t0 := b14.step (Step.of_ext (own := own14) (Ls := Ls14) hE)
  clear b14
  have b14 := t0
  clear t0
  have t0 := qA.grow ((Step.of_ext (own := own14) (Ls := Ls14) hE)).grow
  clear qA
  have qA := t0
  clear t0
  have t0 := qS.grow ((Step.of_ext (own := own14) (Ls := Ls14) hE)).grow
  clear qS
  have qS := t0
  clear t0
  have t0 := qU.grow ((Step.of_ext (own := own14) (Ls := Ls14) hE)).grow
  clear qU
  have qU := t0
  clear t0
  have t0 := qT.grow ((Step.of_ext (own := own14) (Ls := Ls14) hE)).grow
  clear qT
  have qT := t0
  clear t0
  have t0 := qD.grow ((Step.of_ext (own := own14) (Ls := Ls14) hE)).grow
  clear qD
  have qD := t0
  clear t0
  have t0 := qQ.grow ((Step.of_ext (own := own14) (Ls := Ls14) hE)).grow
  clear qQ
  have qQ := t0
  clear t0
  clear hE
  go_wp2_with fail
  have hlen := len_le_sumW l3
  refine (fromX_any xo l3.length l3.length l3 _ (by omega) rfl hXr).mono ?_
  rintro e W29 ⟨rfl, hE, hB⟩
  have rH := RowU.mk hI (Nat.le_refl _) hB.row
  have hs29 := hE.size
  have t0 := hI.ext hE
  clear hI
  have hI := t0
  clear t0
  have t0 := hW.trans (Step.of_ext (own := own14) (Ls := Ls14) hE)
  clear hW
  have hW := t0
  clear t0
  have t0 := rA.step (Step.of_ext (own := own14) (Ls := Ls14) hE)
  clear rA
  have rA := t0
  clear t0
  have t0 := rS.step (Step.of_ext (own := own14) (Ls := Ls14) hE)
  clear rS
  have rS := t0
  clear t0
  have t0 := rU.step (Step.of_ext (own := own14) (Ls := Ls14) hE)
  clear rU
  have rU := t0
  clear t0
  have t0 := rF.step (Step.of_ext (own := own14) (Ls := Ls14) hE)
  clear rF
  have rF := t0
  clear t0
  have t0 := rJ.step (Step.of_ext (own := own14) (Ls := Ls14) hE)
  clear rJ
  have rJ := t0
  clear t0
  have t0 := rG.step (Step.of_ext (own := own14) (Ls := Ls14) hE)
  clear rG
  have rG := t0
  clear t0
  have t0 := b8.step (Step.of_ext (own := own14) (Ls := Ls14) hE)
  clear b8
  have b8 := t0
  clear t0
  have t0 := b9.step (Step.of_ext (own := own14) (Ls := Ls14) hE)
  clear b9
  have b9 := t0
  clear t0
  have t0 := b10.step (Step.of_ext (own := own14) (Ls := Ls14) hE)
  clear b10
  have b10 := t0
  clear t0
  have t0 := b11.step (Step.of_ext (own := own14) (Ls := Ls14) hE)
  clear b11
  have b11 := t0
  clear t0
  have t0 := b13.step (Step.of_ext (own := own14) (Ls := Ls14) hE)
  clear b13
  have b13 := t0
  clear t0
  have t0 := b14.step (Step.of_ext (own := own14) (Ls := Ls14) hE)
  clear b14
  have b14 := t0
  clear t0
  have t0 := qA.grow ((Step.of_ext (own := own14) (Ls := Ls14) hE)).grow
  clear qA
  have qA := t0
  clear t0
  have t0 := qS.grow ((Step.of_ext (own := own14) (Ls := Ls14) hE)).grow
  clear qS
  have qS := t0
  clear t0
  have t0 := qU.grow ((Step.of_ext (own := own14) (Ls := Ls14) hE)).grow
  clear qU
  have qU := t0
  clear t0
  have t0 := qT.grow ((Step.of_ext (own := own14) (Ls := Ls14) hE)).grow
  clear qT
  have qT := t0
  clear t0
  have t0 := qD.grow ((Step.of_ext (own := own14) (Ls := Ls14) hE)).grow
  clear qD
  have qD := t0
  clear t0
  have t0 := qQ.grow ((Step.of_ext (own := own14) (Ls := Ls14) hE)).grow
  clear qQ
  have qQ := t0
  clear t0
  clear hE hB hXr hlen
  generalize hgg29 : W28.heap.size = grH at *
  clear hgg29
  clear b140 b141 b142 b143 b144 b14f b14l
  go_wp2_with fail
  have hl2 := len_le_sumW l2
  have hl3 := len_le_sumW l3
  refine (model_any (some ⟨grG, 0, none⟩) (l2.length) (l2.length) l2 _ (by omega) rfl rG.row (sizes_of (by omega))).mono ?_
  rintro e W30 ⟨grM, rfl, hgg, hB, hbelow⟩
  have rM := RowU.mk hI hgg hB.row
  have hs30 := hbelow.size
  have t0 := hI.below hbelow
  clear hI
  have hI := t0
  clear t0
  have t0 := hW.trans (Step.of_below (own := own14) (Ls := Ls14) hbelow)
  clear hW
  have hW := t0
  clear t0
  have t0 := rA.step (Step.of_below (own := own14) (Ls := Ls14) hbelow)
  clear rA
  have rA := t0
  clear t0
  have t0 := rS.step (Step.of_below (own := own14) (Ls := Ls14) hbelow)
  clear rS
  have rS := t0
  clear t0
  have t0 := rU.step (Step.of_below (own := own14) (Ls := Ls14) hbelow)
  clear rU
  have rU := t0
  clear t0
  have t0 := rF.step (Step.of_below (own := own14) (Ls := Ls14) hbelow)
  clear rF
  have rF := t0
  clear t0
  have t0 := rJ.step (Step.of_below (own := own14) (Ls := Ls14) hbelow)
  clear rJ
  have rJ := t0
  clear t0
  have t0 := rG.step (Step.of_below (own := own14) (Ls := Ls14) hbelow)
  clear rG
  have rG := t0
  clear t0
  have t0 := rH.step (Step.of_below (own := own14) (Ls := Ls14) hbelow)
  clear rH
  have rH := t0
  clear t0
  have t0 := b8.step (Step.of_below (own := own14) (Ls := Ls14) hbelow)
  clear b8
  have b8 := t0
  clear t0
  have t0 := b9.step (Step.of_below (own := own14) (Ls := Ls14) hbelow)
  clear b9
  have b9 := t0
  clear t0
  have t0 := b10.step (Step.of_below (own := own14) (Ls := Ls14) hbelow)
  clear b10
  have b10 := t0
  clear t0
  have t0 := b11.step (Step.of_below (own := own14) (Ls := Ls14) hbelow)
  clear b11
  have b11 := t0
  clear t0
  have t0 := b13.step (Step.of_below (own := own14) (Ls := Ls14) hbelow)
  clear b13
  have b13 := t0
  clear t0
  have t0 := b14.step (Step.of_below (own := own14) (Ls := Ls14) hbelow)
  clear b14
  have b14 := t0
  clear t0
  have t0 := qA.grow ((Step.of_below (own := own14) (Ls := Ls14) hbelow)).grow
  clear qA
  have qA := t0
  clear t0
  have t0 := qS.grow ((Step.of_below (own := own14) (Ls := Ls14) hbelow)).grow
  clear qS
  have qS := t0
  clear t0
  have t0 := qU.grow ((Step.of_below (own := own14) (Ls := Ls14) hbelow)).grow
  clear qU
  have qU := t0
  clear t0
  have t0 := qT.grow ((Step.of_below (own := own14) (Ls := Ls14) hbelow)).grow
  clear qT
  have qT := t0
  clear t0
  have t0 := qD.grow ((Step.of_below (own := own14) (Ls := Ls14) hbelow)).grow
  clear qD
  have qD := t0
  clear t0
  have t0 := qQ.grow ((Step.of_below (own := own14) (Ls := Ls14) hbelow)).grow
  clear qQ
  have qQ := t0
  clear t0
  clear hbelow hB hgg
  go_wp2_with fail
  refine (join_any (some ⟨grJ, 0, none⟩) (na + ns) (na + ns) (la ++ ls) coU (nu) (nu) lu _ (by omega) (by omega) hlJ.out HLU.out rJ.row rU.row).mono ?_
  rintro e W31 ⟨rfl, hJ⟩
  have rK := RowU.mk hI hJ.ge hJ.buf.row
  have hbelow := hJ.below
  have hs31 := hbelow.size
  have t0 := hI.below hbelow
  clear hI
  have hI := t0
  clear t0
  have t0 := hW.trans (Step.of_below (own := own14) (Ls := Ls14) hbelow)
  clear hW
  have hW := t0
  clear t0
  have t0 := rA.step (Step.of_below (own := own14) (Ls := Ls14) hbelow)
  clear rA
  have rA := t0
  clear t0
  have t0 := rS.step (Step.of_below (own := own14) (Ls := Ls14) hbelow)
  clear rS
  have rS := t0
  clear t0
  have t0 := rU.step (Step.of_below (own := own14) (Ls := Ls14) hbelow)
  clear rU
  have rU := t0
  clear t0
  have t0 := rF.step (Step.of_below (own := own14) (Ls := Ls14) hbelow)
  clear rF
  have rF := t0
  clear t0
  have t0 := rJ.step (Step.of_below (own := own14) (Ls := Ls14) hbelow)
  clear rJ
  have rJ := t0
  clear t0
  have t0 := rG.step (Step.of_below (own := own14) (Ls := Ls14) hbelow)
  clear rG
  have rG := t0
  clear t0
  have t0 := rH.step (Step.of_below (own := own14) (Ls := Ls14) hbelow)
  clear rH
  have rH := t0
  clear t0
  have t0 := rM.step (Step.of_below (own := own14) (Ls := Ls14) hbelow)
  clear rM
  have rM := t0
  clear t0
  have t0 := b8.step (Step.of_below (own := own14) (Ls := Ls14) hbelow)
  clear b8
  have b8 := t0
  clear t0
  have t0 := b9.step (Step.of_below (own := own14) (Ls := Ls14) hbelow)
  clear b9
  have b9 := t0
  clear t0
  have t0 := b10.step (Step.of_below (own := own14) (Ls := Ls14) hbelow)
  clear b10
  have b10 := t0
  clear t0
  have t0 := b11.step (Step.of_below (own := own14) (Ls := Ls14) hbelow)
  clear b11
  have b11 := t0
  clear t0
  have t0 := b13.step (Step.of_below (own := own14) (Ls := Ls14) hbelow)
  clear b13
  have b13 := t0
  clear t0
  have t0 := b14.step (Step.of_below (own := own14) (Ls := Ls14) hbelow)
  clear b14
  have b14 := t0
  clear t0
  have t0 := qA.grow ((Step.of_below (own := own14) (Ls := Ls14) hbelow)).grow
  clear qA
  have qA := t0
  clear t0
  have t0 := qS.grow ((Step.of_below (own := own14) (Ls := Ls14) hbelow)).grow
  clear qS
  have qS := t0
  clear t0
  have t0 := qU.grow ((Step.of_below (own := own14) (Ls := Ls14) hbelow)).grow
  clear qU
  have qU := t0
  clear t0
  have t0 := qT.grow ((Step.of_below (own := own14) (Ls := Ls14) hbelow)).grow
  clear qT
  have qT := t0
  clear t0
  have t0 := qD.grow ((Step.of_below (own := own14) (Ls := Ls14) hbelow)).grow
  clear qD
  have qD := t0
  clear t0
  have t0 := qQ.grow ((Step.of_below (own := own14) (Ls := Ls14) hbelow)).grow
  clear qQ
  have qQ := t0
  clear t0
  clear hbelow hJ
  generalize hgg31 : W30.heap.size = grK at *
  clear hgg31
  go_wp2_with fail
  rw [List.append_assoc] at rK
  have hsK : sumW (la ++ (ls ++ lu)) ≤ 1048576 := by rw [sumW_append, sumW_append]; omega
  have hlK : Hid ((la ++ (ls ++ lu)).length = na + ns + nu) := by show _ = _; rw [← List.append_assoc, List.length_append, hlJ.out, HLU.out]
  refine (model_any (some ⟨grK, 0, none⟩) (na + ns + nu) (na + ns + nu) (la ++ (ls ++ lu)) _ (by omega) hlK.out rK.row (sizes_of (hsK))).mono ?_
  rintro e W32 ⟨grN, rfl, hgg, hB, hbelow⟩
  have rN := RowU.mk hI hgg hB.row
  have hs32 := hbelow.size
  have t0 := hI.below hbelow
  clear hI
  have hI := t0
  clear t0
  have t0 := hW.trans (Step.of_below (own := own14) (Ls := Ls14) hbelow)
  clear hW
  have hW := t0
  clear t0
  have t0 := rA.step (Step.of_below (own := own14) (Ls := Ls14) hbelow)
  clear rA
  have rA := t0
  clear t0
  have t0 := rS.step (Step.of_below (own := own14) (Ls := Ls14) hbelow)
  clear rS
  have rS := t0
  clear t0
  have t0 := rU.step (Step.of_below (own := own14) (Ls := Ls14) hbelow)
  clear rU
  have rU := t0
  clear t0
  have t0 := rF.step (Step.of_below (own := own14) (Ls := Ls14) hbelow)
  clear rF
  have rF := t0
  clear t0
  have t0 := rJ.step (Step.of_below (own := own14) (Ls := Ls14) hbelow)
  clear rJ
  have rJ := t0
  clear t0
  have t0 := rG.step (Step.of_below (own := own14) (Ls := Ls14) hbelow)
  clear rG
  have rG := t0
  clear t0
  have t0 := rH.step (Step.of_below (own := own14) (Ls := Ls14) hbelow)
  clear rH
  have rH := t0
  clear t0
  have t0 := rM.step (Step.of_below (own := own14) (Ls := Ls14) hbelow)
  clear rM
  have rM := t0
  clear t0
  have t0 := rK.step (Step.of_below (own := own14) (Ls := Ls14) hbelow)
  clear rK
  have rK := t0
  clear t0
  have t0 := b8.step (Step.of_below (own := own14) (Ls := Ls14) hbelow)
  clear b8
  have b8 := t0
  clear t0
  have t0 := b9.step (Step.of_below (own := own14) (Ls := Ls14) hbelow)
  clear b9
  have b9 := t0
  clear t0
  have t0 := b10.step (Step.of_below (own := own14) (Ls := Ls14) hbelow)
  clear b10
  have b10 := t0
  clear t0
  have t0 := b11.step (Step.of_below (own := own14) (Ls := Ls14) hbelow)
  clear b11
  have b11 := t0
  clear t0
  have t0 := b13.step (Step.of_below (own := own14) (Ls := Ls14) hbelow)
  clear b13
  have b13 := t0
  clear t0
  have t0 := b14.step (Step.of_below (own := own14) (Ls := Ls14) hbelow)
  clear b14
  have b14 := t0
  clear t0
  have t0 := qA.grow ((Step.of_below (own := own14) (Ls := Ls14) hbelow)).grow
  clear qA
  have qA := t0
  clear t0
  have t0 := qS.grow ((Step.of_below (own := own14) (Ls := Ls14) hbelow)).grow
  clear qS
  have qS := t0
  clear t0
  have t0 := qU.grow ((Step.of_below (own := own14) (Ls := Ls14) hbelow)).grow
  clear qU
  have qU := t0
  clear t0
  have t0 := qT.grow ((Step.of_below (own := own14) (Ls := Ls14) hbelow)).grow
  clear qT
  have qT := t0
  clear t0
  have t0 := qD.grow ((Step.of_below (own := own14) (Ls := Ls14) hbelow)).grow
  clear qD
  have qD := t0
  clear t0
  have t0 := qQ.grow ((Step.of_below (own := own14) (Ls := Ls14) hbelow)).grow
  clear qQ
  have qQ := t0
  clear t0
  clear hbelow hB hgg
  go_wp2_with fail
  have hlkK : Hid (Like l2 (la ++ (ls ++ lu))) := by have := hlkD.out.trans (hlkJ.out.append (Like.merged lu)); rw [List.append_assoc] at this; exact this
  have hm3 : (mergeL l2).length ≤ 400000 := by rw [merge_len]; have := firsts_le l2; omega
  have hm4 : (mergeL (la ++ (ls ++ lu))).length ≤ 400000 := by rw [merge_len]; have := firsts_le (la ++ (ls ++ lu)); have := hlK.out; omega
  refine (equal_any (some ⟨grM, 0, none⟩) (mergeL l2).length (mergeL l2).length (mergeL l2) (some ⟨grN, 0, none⟩) (mergeL (la ++ (ls ++ lu))).length (mergeL (la ++ (ls ++ lu))).length (mergeL (la ++ (ls ++ lu))) _ (hm3) (hm4) rfl rfl rM.row rN.row (hlkK.out.merge)).mono ?_
  rintro e W33 ⟨rfl, hE⟩
  have hs33 := hE.size
  have t0 := hI.ext hE
  clear hI
  have hI := t0
  clear t0
  have t0 := hW.trans (Step.of_ext (own := own14) (Ls := Ls14) hE)
  clear hW
  have hW := t0
  clear t0
  have t0 := rA.step (Step.of_ext (own := own14) (Ls := Ls14) hE)
  clear rA
  have rA := t0
  clear t0
  have t0 := rS.step (Step.of_ext (own := own14) (Ls := Ls14) hE)
  clear rS
  have rS := t0
  clear t0
  have t0 := rU.step (Step.of_ext (own := own14) (Ls := Ls14) hE)
  clear rU
  have rU := t0
  clear t0
  have t0 := rF.step (Step.of_ext (own := own14) (Ls := Ls14) hE)
  clear rF
  have rF := t0
  clear t0
  have t0 := rJ.step (Step.of_ext (own := own14) (Ls := Ls14) hE)
  clear rJ
  have rJ := t0
  clear t0
  have t0 := rG.step (Step.of_ext (own := own14) (Ls := Ls14) hE)
  clear rG
  have rG := t0
  clear t0
  have t0 := rH.step (Step.of_ext (own := own14) (Ls := Ls14) hE)
  clear rH
  have rH := t0
  clear t0
  have t0 := rM.step (Step.of_ext (own := own14) (Ls := Ls14) hE)
  clear rM
  have rM := t0
  clear t0
  have t0 := rK.step (Step.of_ext (own := own14) (Ls := Ls14) hE)
  clear rK
  have rK := t0
  clear t0
  have t0 := rN.step (Step.of_ext (own := own14) (Ls := Ls14) hE)
  clear rN
  have rN := t0
  clear t0
  have t0 := b8.step (Step.of_ext (own := own14) (Ls := Ls14) hE)
  clear b8
  have b8 := t0
  clear t0
  have t0 := b9.step (Step.of_ext (own := own14) (Ls := Ls14) hE)
  clear b9
  have b9 := t0
  clear t0
  have t0 := b10.step (Step.of_ext (own := own14) (Ls := Ls14) hE)
  clear b10
  have b10 := t0
  clear t0
  have t0 := b11.step (Step.of_ext (own := own14) (Ls := Ls14) hE)
  clear b11
  have b11 := t0
  clear t0
  have t0 := b13.step (Step.of_ext (own := own14) (Ls := Ls14) hE)
  clear b13
  have b13 := t0
  clear t0
  have t0 := b14.step (Step.of_ext (own := own14) (Ls := Ls14) hE)
  clear b14
  have b14 := t0
  clear t0
  have t0 := qA.grow ((Step.of_ext (own := own14) (Ls := Ls14) hE)).grow
  clear qA
  have qA := t0
  clear t0
  have t0 := qS.grow ((Step.of_ext (own := own14) (Ls := Ls14) hE)).grow
  clear qS
  have qS := t0
  clear t0
  have t0 := qU.grow ((Step.of_ext (own := own14) (Ls := Ls14) hE)).grow
  clear qU
  have qU := t0
  clear t0
  have t0 := qT.grow ((Step.of_ext (own := own14) (Ls := Ls14) hE)).grow
  clear qT
  have qT := t0
  clear t0
  have t0 := qD.grow ((Step.of_ext (own := own14) (Ls := Ls14) hE)).grow
  clear qD
  have qD := t0
  clear t0
  have t0 := qQ.grow ((Step.of_ext (own := own14) (Ls := Ls14) hE)).grow
  clear qQ
  have qQ := t0
  clear t0
  clear hE
  clear rM
  clear rN
  clear rK
  go_wp2_with fail
  refine (model_any (some ⟨grH, 0, none⟩) (l3.length) (l3.length) l3 _ (by omega) rfl rH.row (sizes_of (by omega))).mono ?_
  rintro e W34 ⟨grM, rfl, hgg, hB, hbelow⟩
  have rM := RowU.mk hI hgg hB.row
  have hs34 := hbelow.size
  have t0 := hI.below hbelow
  clear hI
  have hI := t0
  clear t0
  have t0 := hW.trans (Step.of_below (own := own14) (Ls := Ls14) hbelow)
  clear hW
  have hW := t0
  clear t0
  have t0 := rA.step (Step.of_below (own := own14) (Ls := Ls14) hbelow)
  clear rA
  have rA := t0
  clear t0
  have t0 := rS.step (Step.of_below (own := own14) (Ls := Ls14) hbelow)
  clear rS
  have rS := t0
  clear t0
  have t0 := rU.step (Step.of_below (own := own14) (Ls := Ls14) hbelow)
  clear rU
  have rU := t0
  clear t0
  have t0 := rF.step (Step.of_below (own := own14) (Ls := Ls14) hbelow)
  clear rF
  have rF := t0
  clear t0
  have t0 := rJ.step (Step.of_below (own := own14) (Ls := Ls14) hbelow)
  clear rJ
  have rJ := t0
  clear t0
  have t0 := rG.step (Step.of_below (own := own14) (Ls := Ls14) hbelow)
  clear rG
  have rG := t0
  clear t0
  have t0 := rH.step (Step.of_below (own := own14) (Ls := Ls14) hbelow)
  clear rH
  have rH := t0
  clear t0
  have t0 := b8.step (Step.of_below (own := own14) (Ls := Ls14) hbelow)
  clear b8
  have b8 := t0
  clear t0
  have t0 := b9.step (Step.of_below (own := own14) (Ls := Ls14) hbelow)
  clear b9
  have b9 := t0
  clear t0
  have t0 := b10.step (Step.of_below (own := own14) (Ls := Ls14) hbelow)
  clear b10
  have b10 := t0
  clear t0
  have t0 := b11.step (Step.of_below (own := own14) (Ls := Ls14) hbelow)
  clear b11
  have b11 := t0
  clear t0
  have t0 := b13.step (Step.of_below (own := own14) (Ls := Ls14) hbelow)
  clear b13
  have b13 := t0
  clear t0
  have t0 := b14.step (Step.of_below (own := own14) (Ls := Ls14) hbelow)
  clear b14
  have b14 := t0
  clear t0
  have t0 := qA.grow ((Step.of_below (own := own14) (Ls := Ls14) hbelow)).grow
  clear qA
  have qA := t0
  clear t0
  have t0 := qS.grow ((Step.of_below (own := own14) (Ls := Ls14) hbelow)).grow
  clear qS
  have qS := t0
  clear t0
  have t0 := qU.grow ((Step.of_below (own := own14) (Ls := Ls14) hbelow)).grow
  clear qU
  have qU := t0
  clear t0
  have t0 := qT.grow ((Step.of_below (own := own14) (Ls := Ls14) hbelow)).grow
  clear qT
  have qT := t0
  clear t0
  have t0 := qD.grow ((Step.of_below (own := own14) (Ls := Ls14) hbelow)).grow
  clear qD
  have qD := t0
  clear t0
  have t0 := qQ.grow ((Step.of_below (own := own14) (Ls := Ls14) hbelow)).grow
  clear qQ
  have qQ := t0
  clear t0
  clear hbelow hB hgg
  go_wp2_with fail
  refine (join_any coA (na) (na) la coU (nu) (nu) lu _ (by omega) (by omega) HLA.out HLU.out rA.row rU.row).mono ?_
  rintro e W35 ⟨rfl, hJ⟩
  have rK := RowU.mk hI hJ.ge hJ.buf.row
  have hbelow := hJ.below
  have hs35 := hbelow.size
  have t0 := hI.below hbelow
  clear hI
  have hI := t0
  clear t0
  have t0 := hW.trans (Step.of_below (own := own14) (Ls := Ls14) hbelow)
  clear hW
  have hW := t0
  clear t0
  have t0 := rA.step (Step.of_below (own := own14) (Ls := Ls14) hbelow)
  clear rA
  have rA := t0
  clear t0
  have t0 := rS.step (Step.of_below (own := own14) (Ls := Ls14) hbelow)
  clear rS
  have rS := t0
  clear t0
  have t0 := rU.step (Step.of_below (own := own14) (Ls := Ls14) hbelow)
  clear rU
  have rU := t0
  clear t0
  have t0 := rF.step (Step.of_below (own := own14) (Ls := Ls14) hbelow)
  clear rF
  have rF := t0
  clear t0
  have t0 := rJ.step (Step.of_below (own := own14) (Ls := Ls14) hbelow)
  clear rJ
  have rJ := t0
  clear t0
  have t0 := rG.step (Step.of_below (own := own14) (Ls := Ls14) hbelow)
  clear rG
  have rG := t0
  clear t0
  have t0 := rH.step (Step.of_below (own := own14) (Ls := Ls14) hbelow)
  clear rH
  have rH := t0
  clear t0
  have t0 := rM.step (Step.of_below (own := own14) (Ls := Ls14) hbelow)
  clear rM
  have rM := t0
  clear t0
  have t0 := b8.step (Step.of_below (own := own14) (Ls := Ls14) hbelow)
  clear b8
  have b8 := t0
  clear t0
  have t0 := b9.step (Step.of_below (own := own14) (Ls := Ls14) hbelow)
  clear b9
  have b9 := t0
  clear t0
  have t0 := b10.step (Step.of_below (own := own14) (Ls := Ls14) hbelow)
  clear b10
  have b10 := t0
  clear t0
  have t0 := b11.step (Step.of_below (own := own14) (Ls := Ls14) hbelow)
  clear b11
  have b11 := t0
  clear t0
  have t0 := b13.step (Step.of_below (own := own14) (Ls := Ls14) hbelow)
  clear b13
  have b13 := t0
  clear t0
  have t0 := b14.step (Step.of_below (own := own14) (Ls := Ls14) hbelow)
  clear b14
  have b14 := t0
  clear t0
  have t0 := qA.grow ((Step.of_below (own := own14) (Ls := Ls14) hbelow)).grow
  clear qA
  have qA := t0
  clear t0
  have t0 := qS.grow ((Step.of_below (own := own14) (Ls := Ls14) hbelow)).grow
  clear qS
  have qS := t0
  clear t0
  have t0 := qU.grow ((Step.of_below (own := own14) (Ls := Ls14) hbelow)).grow
  clear qU
  have qU := t0
  clear t0
  have t0 := qT.grow ((Step.of_below (own := own14) (Ls := Ls14) hbelow)).grow
  clear qT
  have qT := t0
  clear t0
  have t0 := qD.grow ((Step.of_below (own := own14) (Ls := Ls14) hbelow)).grow
  clear qD
  have qD := t0
  clear t0
  have t0 := qQ.grow ((Step.of_below (own := own14) (Ls := Ls14) hbelow)).grow
  clear qQ
  have qQ := t0
  clear t0
  clear hbelow hJ
  generalize hgg35 : W34.heap.size = grK at *
  clear hgg35
  go_wp2_with fail
  have hsP : sumW (la ++ lu) ≤ 1048576 := by rw [sumW_append]; omega
  have hlP : Hid ((la ++ lu).length = na + nu) := by show _ = _; rw [List.length_append, HLA.out, HLU.out]
  refine (model_any (some ⟨grK, 0, none⟩) (na + nu) (na + nu) (la ++ lu) _ (by omega) hlP.out rK.row (sizes_of (hsP))).mono ?_
  rintro e W36 ⟨grN, rfl, hgg, hB, hbelow⟩
  have rN := RowU.mk hI hgg hB.row
  have hs36 := hbelow.size
  have t0 := hI.below hbelow
  clear hI
  have hI := t0
  clear t0
  have t0 := hW.trans (Step.of_below (own := own14) (Ls := Ls14) hbelow)
  clear hW
  have hW := t0
  clear t0
  have t0 := rA.step (Step.of_below (own := own14) (Ls := Ls14) hbelow)
  clear rA
  have rA := t0
  clear t0
  have t0 := rS.step (Step.of_below (own := own14) (Ls := Ls14) hbelow)
  clear rS
  have rS := t0
  clear t0
  have t0 := rU.step (Step.of_below (own := own14) (Ls := Ls14) hbelow)
  clear rU
  have rU := t0
  clear t0
  have t0 := rF.step (Step.of_below (own := own14) (Ls := Ls14) hbelow)
  clear rF
  have rF := t0
  clear t0
  have t0 := rJ.step (Step.of_below (own := own14) (Ls := Ls14) hbelow)
  clear rJ
  have rJ := t0
  clear t0
  have t0 := rG.step (Step.of_below (own := own14) (Ls := Ls14) hbelow)
  clear rG
  have rG := t0
  clear t0
  have t0 := rH.step (Step.of_below (own := own14) (Ls := Ls14) hbelow)
  clear rH
  have rH := t0
  clear t0
  have t0 := rM.step (Step.of_below (own := own14) (Ls := Ls14) hbelow)
  clear rM
  have rM := t0
  clear t0
  have t0 := rK.step (Step.of_below (own := own14) (Ls := Ls14) hbelow)
  clear rK
  have rK := t0
  clear t0
  have t0 := b8.step (Step.of_below (own := own14) (Ls := Ls14) hbelow)
  clear b8
  have b8 := t0
  clear t0
  have t0 := b9.step (Step.of_below (own := own14) (Ls := Ls14) hbelow)
  clear b9
  have b9 := t0
  clear t0
  have t0 := b10.step (Step.of_below (own := own14) (Ls := Ls14) hbelow)
  clear b10
  have b10 := t0
  clear t0
  have t0 := b11.step (Step.of_below (own := own14) (Ls := Ls14) hbelow)
  clear b11
  have b11 := t0
  clear t0
  have t0 := b13.step (Step.of_below (own := own14) (Ls := Ls14) hbelow)
  clear b13
  have b13 := t0
  clear t0
  have t0 := b14.step (Step.of_below (own := own14) (Ls := Ls14) hbelow)
  clear b14
  have b14 := t0
  clear t0
  have t0 := qA.grow ((Step.of_below (own := own14) (Ls := Ls14) hbelow)).grow
  clear qA
  have qA := t0
  clear t0
  have t0 := qS.grow ((Step.of_below (own := own14) (Ls := Ls14) hbelow)).grow
  clear qS
  have qS := t0
  clear t0
  have t0 := qU.grow ((Step.of_below (own := own14) (Ls := Ls14) hbelow)).grow
  clear qU
  have qU := t0
  clear t0
  have t0 := qT.grow ((Step.of_below (own := own14) (Ls := Ls14) hbelow)).grow
  clear qT
  have qT := t0
  clear t0
  have t0 := qD.grow ((Step.of_below (own := own14) (Ls := Ls14) hbelow)).grow
  clear qD
  have qD := t0
  clear t0
  have t0 := qQ.grow ((Step.of_below (own := own14) (Ls := Ls14) hbelow)).grow
  clear qQ
  have qQ := t0
  clear t0
  clear hbelow hB hgg
  go_wp2_with fail
  have hlkP : Hid (Like l3 (la ++ lu)) := hlkQ.out.trans ((Like.merged la).append (Like.merged lu))
  have hm5 : (mergeL l3).length ≤ 400000 := by rw [merge_len]; have := firsts_le l3; omega
  have hm6 : (mergeL (la ++ lu)).length ≤ 400000 := by rw [merge_len]; have := firsts_le (la ++ lu); have := hlP.out; omega
  refine (equal_any (some ⟨grM, 0, none⟩) (mergeL l3).length (mergeL l3).length (mergeL l3) (some ⟨grN, 0, none⟩) (mergeL (la ++ lu)).length (mergeL (la ++ lu)).length (mergeL (la ++ lu)) _ (hm5) (hm6) rfl rfl rM.row rN.row (hlkP.out.merge)).mono ?_
  rintro e W37 ⟨rfl, hE⟩
  have hs37 := hE.size
  have t0 := hI.ext hE
  clear hI
  have hI := t0
  clear t0
  have t0 := hW.trans (Step.of_ext (own := own14) (Ls := Ls14) hE)
  clear hW
  have hW := t0
  clear t0
  have t0 := rA.step (Step.of_ext (own := own14) (Ls := Ls14) hE)
  clear rA
  have rA := t0
  clear t0
  have t0 := rS.step (Step.of_ext (own := own14) (Ls := Ls14) hE)
  clear rS
  have rS := t0
  clear t0
  have t0 := rU.step (Step.of_ext (own := own14) (Ls := Ls14) hE)
  clear rU
  have rU := t0
  clear t0
  have t0 := rF.step (Step.of_ext (own := own14) (Ls := Ls14) hE)
  clear rF
  have rF := t0
  clear t0
  have t0 := rJ.step (Step.of_ext (own := own14) (Ls := Ls14) hE)
  clear rJ
  have rJ := t0
  clear t0
  have t0 := rG.step (Step.of_ext (own := own14) (Ls := Ls14) hE)
  clear rG
  have rG := t0
  clear t0
  have t0 := rH.step (Step.of_ext (own := own14) (Ls := Ls14) hE)
  clear rH
  have rH := t0
  clear t0
  have t0 := rM.step (Step.of_ext (own := own14) (Ls := Ls14) hE)
  clear rM
  have rM := t0
  clear t0
  have t0 := rK.step (Step.of_ext (own := own14) (Ls := Ls14) hE)
  clear rK
  have rK := t0
  clear t0
  have t0 := rN.step (Step.of_ext (own := own14) (Ls := Ls14) hE)
  clear rN
  have rN := t0
  clear t0
  have t0 := b8.step (Step.of_ext (own := own14) (Ls := Ls14) hE)
  clear b8
  have b8 := t0
  clear t0
  have t0 := b9.step (Step.of_ext (own := own14) (Ls := Ls14) hE)
  clear b9
  have b9 := t0
  clear t0
  have t0 := b10.step (Step.of_ext (own := own14) (Ls := Ls14) hE)
  clear b10
  have b10 := t0
  clear t0
  have t0 := b11.step (Step.of_ext (own := own14) (Ls := Ls14) hE)
  clear b11
  have b11 := t0
  clear t0
  have t0 := b13.step (Step.of_ext (own := own14) (Ls := Ls14) hE)
  clear b13
  have b13 := t0
  clear t0
  have t0 := b14.step (Step.of_ext (own := own14) (Ls := Ls14) hE)
  clear b14
  have b14 := t0
  clear t0
  have t0 := qA.grow ((Step.of_ext (own := own14) (Ls := Ls14) hE)).grow
  clear qA
  have qA := t0
  clear t0
  have t0 := qS.grow ((Step.of_ext (own := own14) (Ls := Ls14) hE)).grow
  clear qS
  have qS := t0
  clear t0
  have t0 := qU.grow ((Step.of_ext (own := own14) (Ls := Ls14) hE)).grow
  clear qU
  have qU := t0
  clear t0
  have t0 := qT.grow ((Step.of_ext (own := own14) (Ls := Ls14) hE)).grow
  clear qT
  have qT := t0
  clear t0
  have t0 := qD.grow ((Step.of_ext (own := own14) (Ls := Ls14) hE)).grow
  clear qD
  have qD := t0
  clear t0
  have t0 := qQ.grow ((Step.of_ext (own := own14) (Ls := Ls14) hE)).grow
  clear qQ
  have qQ := t0
  clear t0
  clear hE
  clear rM
  clear rN
  clear rK
  obtain ⟨b110, b111, b112, b113, b114, b11f, b11l⟩ := b11.cells
  go_wp2_with fail
  refine (zzcounts_any (.pointer (p1.map fun p => ⟨p, 0, none⟩)) l1.length (firsts l1).length (sumW l1) (sumW (mergeL l1)) _).mono ?_
  rintro e W38 ⟨rfl, hE⟩
  have hs38 := hE.size
  clear b110 b111 b112 b113 b114 b11f b11l
  have t0 := hI.ext hE
  clear hI
  have hI := t0
  clear t0
  have t0 := hW.trans (Step.of_ext (own := own14) (Ls := Ls14) hE)
  clear hW
  have hW := t0
  clear t0
  have t0 := rA.step (Step.of_ext (own := own14) (Ls := Ls14) hE)
  clear rA
  have rA := t0
  clear t0
  have t0 := rS.step (Step.of_ext (own := own14) (Ls := Ls14) hE)
  clear rS
  have rS := t0
  clear t0
  have t0 := rU.step (Step.of_ext (own := own14) (Ls := Ls14) hE)
  clear rU
  have rU := t0
  clear t0
  have t0 := rF.step (Step.of_ext (own := own14) (Ls := Ls14) hE)
  clear rF
  have rF := t0
  clear t0
  have t0 := rJ.step (Step.of_ext (own := own14) (Ls := Ls14) hE)
  clear rJ
  have rJ := t0
  clear t0
  have t0 := rG.step (Step.of_ext (own := own14) (Ls := Ls14) hE)
  clear rG
  have rG := t0
  clear t0
  have t0 := rH.step (Step.of_ext (own := own14) (Ls := Ls14) hE)
  clear rH
  have rH := t0
  clear t0
  have t0 := b8.step (Step.of_ext (own := own14) (Ls := Ls14) hE)
  clear b8
  have b8 := t0
  clear t0
  have t0 := b9.step (Step.of_ext (own := own14) (Ls := Ls14) hE)
  clear b9
  have b9 := t0
  clear t0
  have t0 := b10.step (Step.of_ext (own := own14) (Ls := Ls14) hE)
  clear b10
  have b10 := t0
  clear t0
  have t0 := b11.step (Step.of_ext (own := own14) (Ls := Ls14) hE)
  clear b11
  have b11 := t0
  clear t0
  have t0 := b13.step (Step.of_ext (own := own14) (Ls := Ls14) hE)
  clear b13
  have b13 := t0
  clear t0
  have t0 := b14.step (Step.of_ext (own := own14) (Ls := Ls14) hE)
  clear b14
  have b14 := t0
  clear t0
  have t0 := qA.grow ((Step.of_ext (own := own14) (Ls := Ls14) hE)).grow
  clear qA
  have qA := t0
  clear t0
  have t0 := qS.grow ((Step.of_ext (own := own14) (Ls := Ls14) hE)).grow
  clear qS
  have qS := t0
  clear t0
  have t0 := qU.grow ((Step.of_ext (own := own14) (Ls := Ls14) hE)).grow
  clear qU
  have qU := t0
  clear t0
  have t0 := qT.grow ((Step.of_ext (own := own14) (Ls := Ls14) hE)).grow
  clear qT
  have qT := t0
  clear t0
  have t0 := qD.grow ((Step.of_ext (own := own14) (Ls := Ls14) hE)).grow
  clear qD
  have qD := t0
  clear t0
  have t0 := qQ.grow ((Step.of_ext (own := own14) (Ls := Ls14) hE)).grow
  clear qQ
  have qQ := t0
  clear t0
  clear hE
  obtain ⟨b130, b131, b132, b133, b134, b13f, b13l⟩ := b13.cells
  go_wp2_with fail
  refine (zzcounts_any (.pointer (p2.map fun p => ⟨p, 0, none⟩)) l2.length (firsts l2).length (sumW l2) (sumW (mergeL l2)) _).mono ?_
  rintro e W39 ⟨rfl, hE⟩
  have hs39 := hE.size
  clear b130 b131 b132 b133 b134 b13f b13l
  have t0 := hI.ext hE
  clear hI
  have hI := t0
  clear t0
  have t0 := hW.trans (Step.of_ext (own := own14) (Ls := Ls14) hE)
  clear hW
  have hW := t0
  clear t0
  have t0 := rA.step (Step.of_ext (own := own14) (Ls := Ls14) hE)
  clear rA
  have rA := t0
  clear t0
  have t0 := rS.step (Step.of_ext (own := own14) (Ls := Ls14) hE)
  clear rS
  have rS := t0
  clear t0
  have t0 := rU.step (Step.of_ext (own := own14) (Ls := Ls14) hE)
  clear rU
  have rU := t0
  clear t0
  have t0 := rF.step (Step.of_ext (own := own14) (Ls := Ls14) hE)
  clear rF
  have rF := t0
  clear t0
  have t0 := rJ.step (Step.of_ext (own := own14) (Ls := Ls14) hE)
  clear rJ
  have rJ := t0
  clear t0
  have t0 := rG.step (Step.of_ext (own := own14) (Ls := Ls14) hE)
  clear rG
  have rG := t0
  clear t0
  have t0 := rH.step (Step.of_ext (own := own14) (Ls := Ls14) hE)
  clear rH
  have rH := t0
  clear t0
  have t0 := b8.step (Step.of_ext (own := own14) (Ls := Ls14) hE)
  clear b8
  have b8 := t0
  clear t0
  have t0 := b9.step (Step.of_ext (own := own14) (Ls := Ls14) hE)
  clear b9
  have b9 := t0
  clear t0
  have t0 := b10.step (Step.of_ext (own := own14) (Ls := Ls14) hE)
  clear b10
  have b10 := t0
  clear t0
  have t0 := b11.step (Step.of_ext (own := own14) (Ls := Ls14) hE)
  clear b11
  have b11 := t0
  clear t0
  have t0 := b13.step (Step.of_ext (own := own14) (Ls := Ls14) hE)
  clear b13
  have b13 := t0
  clear t0
  have t0 := b14.step (Step.of_ext (own := own14) (Ls := Ls14) hE)
  clear b14
  have b14 := t0
  clear t0
  have t0 := qA.grow ((Step.of_ext (own := own14) (Ls := Ls14) hE)).grow
  clear qA
  have qA := t0
  clear t0
  have t0 := qS.grow ((Step.of_ext (own := own14) (Ls := Ls14) hE)).grow
  clear qS
  have qS := t0
  clear t0
  have t0 := qU.grow ((Step.of_ext (own := own14) (Ls := Ls14) hE)).grow
  clear qU
  have qU := t0
  clear t0
  have t0 := qT.grow ((Step.of_ext (own := own14) (Ls := Ls14) hE)).grow
  clear qT
  have qT := t0
  clear t0
  have t0 := qD.grow ((Step.of_ext (own := own14) (Ls := Ls14) hE)).grow
  clear qD
  have qD := t0
  clear t0
  have t0 := qQ.grow ((Step.of_ext (own := own14) (Ls := Ls14) hE)).grow
  clear qQ
  have qQ := t0
  clear t0
  clear hE
  obtain ⟨b140, b141, b142, b143, b144, b14f, b14l⟩ := b14.cells
  go_wp2_with fail
  refine (zzcounts_any (.pointer (p3.map fun p => ⟨p, 0, none⟩)) l3.length (firsts l3).length (sumW l3) (sumW (mergeL l3)) _).mono ?_
  rintro e W40 ⟨rfl, hE⟩
  have hs40 := hE.size
  clear b140 b141 b142 b143 b144 b14f b14l
  have t0 := hI.ext hE
  clear hI
  have hI := t0
  clear t0
  have t0 := hW.trans (Step.of_ext (own := own14) (Ls := Ls14) hE)
  clear hW
  have hW := t0
  clear t0
  have t0 := rA.step (Step.of_ext (own := own14) (Ls := Ls14) hE)
  clear rA
  have rA := t0
  clear t0
  have t0 := rS.step (Step.of_ext (own := own14) (Ls := Ls14) hE)
  clear rS
  have rS := t0
  clear t0
  have t0 := rU.step (Step.of_ext (own := own14) (Ls := Ls14) hE)
  clear rU
  have rU := t0
  clear t0
  have t0 := rF.step (Step.of_ext (own := own14) (Ls := Ls14) hE)
  clear rF
  have rF := t0
  clear t0
  have t0 := rJ.step (Step.of_ext (own := own14) (Ls := Ls14) hE)
  clear rJ
  have rJ := t0
  clear t0
  have t0 := rG.step (Step.of_ext (own := own14) (Ls := Ls14) hE)
  clear rG
  have rG := t0
  clear t0
  have t0 := rH.step (Step.of_ext (own := own14) (Ls := Ls14) hE)
  clear rH
  have rH := t0
  clear t0
  have t0 := b8.step (Step.of_ext (own := own14) (Ls := Ls14) hE)
  clear b8
  have b8 := t0
  clear t0
  have t0 := b9.step (Step.of_ext (own := own14) (Ls := Ls14) hE)
  clear b9
  have b9 := t0
  clear t0
  have t0 := b10.step (Step.of_ext (own := own14) (Ls := Ls14) hE)
  clear b10
  have b10 := t0
  clear t0
  have t0 := b11.step (Step.of_ext (own := own14) (Ls := Ls14) hE)
  clear b11
  have b11 := t0
  clear t0
  have t0 := b13.step (Step.of_ext (own := own14) (Ls := Ls14) hE)
  clear b13
  have b13 := t0
  clear t0
  have t0 := b14.step (Step.of_ext (own := own14) (Ls := Ls14) hE)
  clear b14
  have b14 := t0
  clear t0
  have t0 := qA.grow ((Step.of_ext (own := own14) (Ls := Ls14) hE)).grow
  clear qA
  have qA := t0
  clear t0
  have t0 := qS.grow ((Step.of_ext (own := own14) (Ls := Ls14) hE)).grow
  clear qS
  have qS := t0
  clear t0
  have t0 := qU.grow ((Step.of_ext (own := own14) (Ls := Ls14) hE)).grow
  clear qU
  have qU := t0
  clear t0
  have t0 := qT.grow ((Step.of_ext (own := own14) (Ls := Ls14) hE)).grow
  clear qT
  have qT := t0
  clear t0
  have t0 := qD.grow ((Step.of_ext (own := own14) (Ls := Ls14) hE)).grow
  clear qD
  have qD := t0
  clear t0
  have t0 := qQ.grow ((Step.of_ext (own := own14) (Ls := Ls14) hE)).grow
  clear qQ
  have qQ := t0
  clear t0
  clear hE
  go_wp2_with fail
  refine (counts_any (some ⟨grF, 0, none⟩) l1.length l1 _ (by omega) rF.row qT.half).mono ?_
  rintro e W41 ⟨rfl, hbelow⟩
  have hs41 := hbelow.size
  have t0 := hI.below hbelow
  clear hI
  have hI := t0
  clear t0
  have t0 := hW.trans (Step.of_below (own := own14) (Ls := Ls14) hbelow)
  clear hW
  have hW := t0
  clear t0
  have t0 := rA.step (Step.of_below (own := own14) (Ls := Ls14) hbelow)
  clear rA
  have rA := t0
  clear t0
  have t0 := rS.step (Step.of_below (own := own14) (Ls := Ls14) hbelow)
  clear rS
  have rS := t0
  clear t0
  have t0 := rU.step (Step.of_below (own := own14) (Ls := Ls14) hbelow)
  clear rU
  have rU := t0
  clear t0
  have t0 := rF.step (Step.of_below (own := own14) (Ls := Ls14) hbelow)
  clear rF
  have rF := t0
  clear t0
  have t0 := rJ.step (Step.of_below (own := own14) (Ls := Ls14) hbelow)
  clear rJ
  have rJ := t0
  clear t0
  have t0 := rG.step (Step.of_below (own := own14) (Ls := Ls14) hbelow)
  clear rG
  have rG := t0
  clear t0
  have t0 := rH.step (Step.of_below (own := own14) (Ls := Ls14) hbelow)
  clear rH
  have rH := t0
  clear t0
  have t0 := b8.step (Step.of_below (own := own14) (Ls := Ls14) hbelow)
  clear b8
  have b8 := t0
  clear t0
  have t0 := b9.step (Step.of_below (own := own14) (Ls := Ls14) hbelow)
  clear b9
  have b9 := t0
  clear t0
  have t0 := b10.step (Step.of_below (own := own14) (Ls := Ls14) hbelow)
  clear b10
  have b10 := t0
  clear t0
  have t0 := b11.step (Step.of_below (own := own14) (Ls := Ls14) hbelow)
  clear b11
  have b11 := t0
  clear t0
  have t0 := b13.step (Step.of_below (own := own14) (Ls := Ls14) hbelow)
  clear b13
  have b13 := t0
  clear t0
  have t0 := b14.step (Step.of_below (own := own14) (Ls := Ls14) hbelow)
  clear b14
  have b14 := t0
  clear t0
  have t0 := qA.grow ((Step.of_below (own := own14) (Ls := Ls14) hbelow)).grow
  clear qA
  have qA := t0
  clear t0
  have t0 := qS.grow ((Step.of_below (own := own14) (Ls := Ls14) hbelow)).grow
  clear qS
  have qS := t0
  clear t0
  have t0 := qU.grow ((Step.of_below (own := own14) (Ls := Ls14) hbelow)).grow
  clear qU
  have qU := t0
  clear t0
  have t0 := qT.grow ((Step.of_below (own := own14) (Ls := Ls14) hbelow)).grow
  clear qT
  have qT := t0
  clear t0
  have t0 := qD.grow ((Step.of_below (own := own14) (Ls := Ls14) hbelow)).grow
  clear qD
  have qD := t0
  clear t0
  have t0 := qQ.grow ((Step.of_below (own := own14) (Ls := Ls14) hbelow)).grow
  clear qQ
  have qQ := t0
  clear t0
  clear hbelow
  go_wp2_with fail
  refine (counts_any (some ⟨grG, 0, none⟩) l2.length l2 _ (by omega) rG.row qD.half).mono ?_
  rintro e W42 ⟨rfl, hbelow⟩
  have hs42 := hbelow.size
  have t0 := hI.below hbelow
  clear hI
  have hI := t0
  clear t0
  have t0 := hW.trans (Step.of_below (own := own14) (Ls := Ls14) hbelow)
  clear hW
  have hW := t0
  clear t0
  have t0 := rA.step (Step.of_below (own := own14) (Ls := Ls14) hbelow)
  clear rA
  have rA := t0
  clear t0
  have t0 := rS.step (Step.of_below (own := own14) (Ls := Ls14) hbelow)
  clear rS
  have rS := t0
  clear t0
  have t0 := rU.step (Step.of_below (own := own14) (Ls := Ls14) hbelow)
  clear rU
  have rU := t0
  clear t0
  have t0 := rF.step (Step.of_below (own := own14) (Ls := Ls14) hbelow)
  clear rF
  have rF := t0
  clear t0
  have t0 := rJ.step (Step.of_below (own := own14) (Ls := Ls14) hbelow)
  clear rJ
  have rJ := t0
  clear t0
  have t0 := rG.step (Step.of_below (own := own14) (Ls := Ls14) hbelow)
  clear rG
  have rG := t0
  clear t0
  have t0 := rH.step (Step.of_below (own := own14) (Ls := Ls14) hbelow)
  clear rH
  have rH := t0
  clear t0
  have t0 := b8.step (Step.of_below (own := own14) (Ls := Ls14) hbelow)
  clear b8
  have b8 := t0
  clear t0
  have t0 := b9.step (Step.of_below (own := own14) (Ls := Ls14) hbelow)
  clear b9
  have b9 := t0
  clear t0
  have t0 := b10.step (Step.of_below (own := own14) (Ls := Ls14) hbelow)
  clear b10
  have b10 := t0
  clear t0
  have t0 := b11.step (Step.of_below (own := own14) (Ls := Ls14) hbelow)
  clear b11
  have b11 := t0
  clear t0
  have t0 := b13.step (Step.of_below (own := own14) (Ls := Ls14) hbelow)
  clear b13
  have b13 := t0
  clear t0
  have t0 := b14.step (Step.of_below (own := own14) (Ls := Ls14) hbelow)
  clear b14
  have b14 := t0
  clear t0
  have t0 := qA.grow ((Step.of_below (own := own14) (Ls := Ls14) hbelow)).grow
  clear qA
  have qA := t0
  clear t0
  have t0 := qS.grow ((Step.of_below (own := own14) (Ls := Ls14) hbelow)).grow
  clear qS
  have qS := t0
  clear t0
  have t0 := qU.grow ((Step.of_below (own := own14) (Ls := Ls14) hbelow)).grow
  clear qU
  have qU := t0
  clear t0
  have t0 := qT.grow ((Step.of_below (own := own14) (Ls := Ls14) hbelow)).grow
  clear qT
  have qT := t0
  clear t0
  have t0 := qD.grow ((Step.of_below (own := own14) (Ls := Ls14) hbelow)).grow
  clear qD
  have qD := t0
  clear t0
  have t0 := qQ.grow ((Step.of_below (own := own14) (Ls := Ls14) hbelow)).grow
  clear qQ
  have qQ := t0
  clear t0
  clear hbelow
  go_wp2_with fail
  refine (counts_any (some ⟨grH, 0, none⟩) l3.length l3 _ (by omega) rH.row qQ.half).mono ?_
  rintro e W43 ⟨rfl, hbelow⟩
  have hs43 := hbelow.size
  have t0 := hI.below hbelow
  clear hI
  have hI := t0
  clear t0
  have t0 := hW.trans (Step.of_below (own := own14) (Ls := Ls14) hbelow)
  clear hW
  have hW := t0
  clear t0
  have t0 := rA.step (Step.of_below (own := own14) (Ls := Ls14) hbelow)
  clear rA
  have rA := t0
  clear t0
  have t0 := rS.step (Step.of_below (own := own14) (Ls := Ls14) hbelow)
  clear rS
  have rS := t0
  clear t0
  have t0 := rU.step (Step.of_below (own := own14) (Ls := Ls14) hbelow)
  clear rU
  have rU := t0
  clear t0
  have t0 := rF.step (Step.of_below (own := own14) (Ls := Ls14) hbelow)
  clear rF
  have rF := t0
  clear t0
  have t0 := rJ.step (Step.of_below (own := own14) (Ls := Ls14) hbelow)
  clear rJ
  have rJ := t0
  clear t0
  have t0 := rG.step (Step.of_below (own := own14) (Ls := Ls14) hbelow)
  clear rG
  have rG := t0
  clear t0
  have t0 := rH.step (Step.of_below (own := own14) (Ls := Ls14) hbelow)
  clear rH
  have rH := t0
  clear t0
  have t0 := b8.step (Step.of_below (own := own14) (Ls := Ls14) hbelow)
  clear b8
  have b8 := t0
  clear t0
  have t0 := b9.step (Step.of_below (own := own14) (Ls := Ls14) hbelow)
  clear b9
  have b9 := t0
  clear t0
  have t0 := b10.step (Step.of_below (own := own14) (Ls := Ls14) hbelow)
  clear b10
  have b10 := t0
  clear t0
  have t0 := b11.step (Step.of_below (own := own14) (Ls := Ls14) hbelow)
  clear b11
  have b11 := t0
  clear t0
  have t0 := b13.step (Step.of_below (own := own14) (Ls := Ls14) hbelow)
  clear b13
  have b13 := t0
  clear t0
  have t0 := b14.step (Step.of_below (own := own14) (Ls := Ls14) hbelow)
  clear b14
  have b14 := t0
  clear t0
  have t0 := qA.grow ((Step.of_below (own := own14) (Ls := Ls14) hbelow)).grow
  clear qA
  have qA := t0
  clear t0
  have t0 := qS.grow ((Step.of_below (own := own14) (Ls := Ls14) hbelow)).grow
  clear qS
  have qS := t0
  clear t0
  have t0 := qU.grow ((Step.of_below (own := own14) (Ls := Ls14) hbelow)).grow
  clear qU
  have qU := t0
  clear t0
  have t0 := qT.grow ((Step.of_below (own := own14) (Ls := Ls14) hbelow)).grow
  clear qT
  have qT := t0
  clear t0
  have t0 := qD.grow ((Step.of_below (own := own14) (Ls := Ls14) hbelow)).grow
  clear qD
  have qD := t0
  clear t0
  have t0 := qQ.grow ((Step.of_below (own := own14) (Ls := Ls14) hbelow)).grow
  clear qQ
  have qQ := t0
  clear t0
  clear hbelow
  go_wp2_with fail
  go_wp2
  go_ret
  exact ⟨rfl, hW.kept.below (fun i _ h => h (by rw [HO.out]))⟩
end Go.Proofs.Qxb6618064a
