/- spec.SameSchema of the same fields. -/
import Derived.Test.YteebgnhhjlgnjaaGreatDoorB14
import Derived.Test.YteebgnhhjlgnjaaGreatDoorSS
namespace Go.Proofs.YteebgnhhjlgnjaaGreatDoor.V
open Go.RowKit Go.Proofs.YteebgnhhjlgnjaaGreatDoorW.PrintWords Go.Proofs.YteebgnhhjlgnjaaGreatDoorW.PrintLast Go.Proofs.YteebgnhhjlgnjaaGreatDoorW.PrintMore
set_option maxHeartbeats 40000000
set_option maxRecDepth 100000
set_option linter.unusedVariables false
set_option linter.unusedSimpArgs false
theorem sm19D : ∀ (n : Nat) (T T' : S28) (d d' : DT), TD n T d → TD n T' d' → SmC T T'
 | 0, T, T', d, d', h, _ => h.elim
 | n + 1, T, T', d, d', h, h' => sm19 n (fun T1 T2 d1 d2 h1 h2 => sm19D n T1 T2 d1 d2 h1 h2) T T' d d' h h'
theorem same12 (fs : List S30) (hf : ∀ f ∈ fs, f.f3 = [] ∧ ∃ t, TD 4 f.f2 t) (hl : fs.length ≤ 1000) (A A' : Option Addr) (c c' : Nat) (w : World) (g : Kd.C k30 w A fs.length fs) (g' : Kd.C k30 w A' fs.length fs) :
 Calls Tryz.prog 12 #[.agg #[.slice A fs.length c, .slice none 0 0], .agg #[.slice A' fs.length c', .slice none 0 0]] w fun e w' => e = .returned (.bool true) ∧ Below w.heap.size w w' := by
 have HH := Aside0.mk (And.intro hf (And.intro hl (And.intro g g')))
 clear hf hl g g'
 go_enter Tryz.func12, Tryz.ntmps12
 go_wp2_with (go_at_call 28; fail)
 refine calls_at ?_
 intro w1 hw1
 have b1 : Below w.heap.size w w1 := by rw [hw1]; repeat (first | exact Below.refl _ _ | apply b1_ | apply b2_ | apply b3_)
 have k1 : w1.heap[w.heap.size]? = some (.cells #[.slice A fs.length c, .slice none 0 0] 25 (0, 0)) := by rw [hw1]; exact blk_alloc_ (blk_new _ _)
 have k2 : w1.heap[w.heap.size + 1]? = some (.cells #[.slice A' fs.length c', .slice none 0 0] 25 (0, 0)) := by rw [hw1]; exact blk_new_at (by simp [alloc_size_])
 clear hw1
 refine (pairs28 none none 0 0 w1).mono ?_
 rintro e w2 ⟨rfl, hb2⟩
 have H2 := Aside0.mk (And.intro (below_step b1 hb2) (And.intro (blk_below k1 hb2) (blk_below k2 hb2)))
 clear b1 k1 k2 hb2
 have y0 := (blk_cell H2.out.2.1 0).trans (show _ = some (.slice A fs.length c : Value) from rfl)
 have z0 := (blk_cell H2.out.2.2 0).trans (show _ = some (.slice A' fs.length c' : Value) from rfl)
 go_wp2
 clear y0 z0
 go_loopg [24] fs.length (fun kq v24 wr => ∃ i : Nat, v24 = .int .i64 (i : Int) ∧ Aside0 (i + kq = fs.length ∧ Below w2.heap.size w2 wr))
 case atStart => exact ⟨0, rfl, ⟨⟨by omega, Below.refl _ _⟩⟩⟩
 case round =>
  obtain ⟨i, rfl, hA⟩ := hrel
  by_cases hi : i < fs.length
  ·have hd : decide ((i : Int) < (fs.length : Int)) = true := by simpa using hi
   have qi : (i < fs.length) = True := eq_true hi
   have qi' : ((i : Int) < (fs.length : Int)) = True := eq_true (by omega)
   have e1 : wrap64 ((i : Int) + 1) = ((i + 1 : Nat) : Int) := by have := HH.out.2.1; rw [w64_id _ (by omega) (by omega)]; omega
   have E1 := Aside0.mk e1
   have bwr := below_step H2.out.1 hA.out.2
   obtain ⟨ad, cs, rfl, hK, hcell⟩ := at30 (Kd.C_below HH.out.2.2.1 bwr) i hi
   obtain ⟨A10, c10, A11, c11, A12, c12, hcs, l10, g10, l11, g11, l12, g12⟩ := k30_open hK
   obtain ⟨ad', cs', rfl, hK', hcell'⟩ := at30 (Kd.C_below HH.out.2.2.2 bwr) i hi
   obtain ⟨A10', c10', A11', c11', A12', c12', hcs', l10', g10', l11', g11', l12', g12'⟩ := k30_open hK'
   obtain ⟨q3, t, q4⟩ := HH.out.1 _ (List.getElem_mem hi)
   generalize hfi : fs[i] = fi at hcs hcs' g10 g11 g10' g11' q3 q4
   obtain ⟨n1, o1, T1, ps⟩ := fi
   obtain rfl : ps = [] := q3
   obtain ⟨x0, x1, x2, x3, x4, x5, x6, x7, x8, x9, x10, x11, x12⟩ := fld13 hcell hcs
   have u0 : wr.cell? (ad'.add (i * 13)) = some (.string n1) := hcell' 0 _ (by rw [hcs']; rfl)
   have u1 : wr.cell? ⟨(ad'.add (i * 13)).block, (ad'.add (i * 13)).off + 1, none⟩ = some (.bool o1) := by rw [← add_field _ _ 1 (by omega)]; exact hcell' 1 _ (by rw [hcs']; rfl)
   have u2 : wr.cell? ⟨(ad'.add (i * 13)).block, (ad'.add (i * 13)).off + 2, none⟩ = some (.int .i64 T1.f0) := by rw [← add_field _ _ 2 (by omega)]; exact hcell' 2 _ (by rw [hcs']; rfl)
   have u3 : wr.cell? ⟨(ad'.add (i * 13)).block, (ad'.add (i * 13)).off + 3, none⟩ = some (.int .i64 T1.f1) := by rw [← add_field _ _ 3 (by omega)]; exact hcell' 3 _ (by rw [hcs']; rfl)
   have u4 : wr.cell? ⟨(ad'.add (i * 13)).block, (ad'.add (i * 13)).off + 4, none⟩ = some (.bool T1.f2) := by rw [← add_field _ _ 4 (by omega)]; exact hcell' 4 _ (by rw [hcs']; rfl)
   have u5 : wr.cell? ⟨(ad'.add (i * 13)).block, (ad'.add (i * 13)).off + 5, none⟩ = some (.int .i64 T1.f3) := by rw [← add_field _ _ 5 (by omega)]; exact hcell' 5 _ (by rw [hcs']; rfl)
   have u6 : wr.cell? ⟨(ad'.add (i * 13)).block, (ad'.add (i * 13)).off + 6, none⟩ = some (.int .i64 T1.f4) := by rw [← add_field _ _ 6 (by omega)]; exact hcell' 6 _ (by rw [hcs']; rfl)
   have u7 : wr.cell? ⟨(ad'.add (i * 13)).block, (ad'.add (i * 13)).off + 7, none⟩ = some (.int .i64 T1.f5) := by rw [← add_field _ _ 7 (by omega)]; exact hcell' 7 _ (by rw [hcs']; rfl)
   have u8 : wr.cell? ⟨(ad'.add (i * 13)).block, (ad'.add (i * 13)).off + 8, none⟩ = some (.string T1.f6) := by rw [← add_field _ _ 8 (by omega)]; exact hcell' 8 _ (by rw [hcs']; rfl)
   have u9 : wr.cell? ⟨(ad'.add (i * 13)).block, (ad'.add (i * 13)).off + 9, none⟩ = some (.bool T1.f7) := by rw [← add_field _ _ 9 (by omega)]; exact hcell' 9 _ (by rw [hcs']; rfl)
   have u10 : wr.cell? ⟨(ad'.add (i * 13)).block, (ad'.add (i * 13)).off + 10, none⟩ = some (.slice A10' T1.f8.length c10') := by rw [← add_field _ _ 10 (by omega)]; exact hcell' 10 _ (by rw [hcs']; rfl)
   have u11 : wr.cell? ⟨(ad'.add (i * 13)).block, (ad'.add (i * 13)).off + 11, none⟩ = some (.slice A11' T1.f9.length c11') := by rw [← add_field _ _ 11 (by omega)]; exact hcell' 11 _ (by rw [hcs']; rfl)
   have u12 : wr.cell? ⟨(ad'.add (i * 13)).block, (ad'.add (i * 13)).off + 12, none⟩ = some (.slice A12' 0 c12') := by rw [← add_field _ _ 12 (by omega)]; exact hcell' 12 _ (by rw [hcs']; rfl)
   have y0 := pw_cell_below hA.out.2 ((blk_cell H2.out.2.1 0).trans (show _ = some (.slice (some ad) fs.length c : Value) from rfl))
   have z0 := pw_cell_below hA.out.2 ((blk_cell H2.out.2.2 0).trans (show _ = some (.slice (some ad') fs.length c' : Value) from rfl))
   have HI := Aside0.mk (And.intro g10 (And.intro g11 (And.intro g10' (And.intro g11' q4))))
   clear e1 hK hK' hcell hcell' hcs hcs' l10 g10 l11 g11 l12 g12 l10' g10' l11' g11' l12' g12' q4 hfi bwr
   go_upto_region 6 with fail
   refine sc 12 (fun w' => Below wr.heap.size wr w' ∧ w'.cell? ⟨w.heap.size, 0, none⟩ = some (.slice (some ad) fs.length c) ∧ w'.cell? ⟨w.heap.size + 1, 0, none⟩ = some (.slice (some ad') fs.length c') ∧ w'.cell? (ad.add (i * 13)) = some (.string n1) ∧ w'.cell? ⟨(ad.add (i * 13)).block, (ad.add (i * 13)).off + 1, none⟩ = some (.bool o1) ∧ w'.cell? ⟨(ad.add (i * 13)).block, (ad.add (i * 13)).off + 2, none⟩ = some (.int .i64 T1.f0) ∧ w'.cell? ⟨(ad.add (i * 13)).block, (ad.add (i * 13)).off + 3, none⟩ = some (.int .i64 T1.f1) ∧ w'.cell? ⟨(ad.add (i * 13)).block, (ad.add (i * 13)).off + 4, none⟩ = some (.bool T1.f2) ∧ w'.cell? ⟨(ad.add (i * 13)).block, (ad.add (i * 13)).off + 5, none⟩ = some (.int .i64 T1.f3) ∧ w'.cell? ⟨(ad.add (i * 13)).block, (ad.add (i * 13)).off + 6, none⟩ = some (.int .i64 T1.f4) ∧ w'.cell? ⟨(ad.add (i * 13)).block, (ad.add (i * 13)).off + 7, none⟩ = some (.int .i64 T1.f5) ∧ w'.cell? ⟨(ad.add (i * 13)).block, (ad.add (i * 13)).off + 8, none⟩ = some (.string T1.f6) ∧ w'.cell? ⟨(ad.add (i * 13)).block, (ad.add (i * 13)).off + 9, none⟩ = some (.bool T1.f7) ∧ w'.cell? ⟨(ad.add (i * 13)).block, (ad.add (i * 13)).off + 10, none⟩ = some (.slice A10 T1.f8.length c10) ∧ w'.cell? ⟨(ad.add (i * 13)).block, (ad.add (i * 13)).off + 11, none⟩ = some (.slice A11 T1.f9.length c11) ∧ w'.cell? ⟨(ad.add (i * 13)).block, (ad.add (i * 13)).off + 12, none⟩ = some (.slice A12 0 c12) ∧ w'.cell? (ad'.add (i * 13)) = some (.string n1) ∧ w'.cell? ⟨(ad'.add (i * 13)).block, (ad'.add (i * 13)).off + 1, none⟩ = some (.bool o1) ∧ w'.cell? ⟨(ad'.add (i * 13)).block, (ad'.add (i * 13)).off + 2, none⟩ = some (.int .i64 T1.f0) ∧ w'.cell? ⟨(ad'.add (i * 13)).block, (ad'.add (i * 13)).off + 3, none⟩ = some (.int .i64 T1.f1) ∧ w'.cell? ⟨(ad'.add (i * 13)).block, (ad'.add (i * 13)).off + 4, none⟩ = some (.bool T1.f2) ∧ w'.cell? ⟨(ad'.add (i * 13)).block, (ad'.add (i * 13)).off + 5, none⟩ = some (.int .i64 T1.f3) ∧ w'.cell? ⟨(ad'.add (i * 13)).block, (ad'.add (i * 13)).off + 6, none⟩ = some (.int .i64 T1.f4) ∧ w'.cell? ⟨(ad'.add (i * 13)).block, (ad'.add (i * 13)).off + 7, none⟩ = some (.int .i64 T1.f5) ∧ w'.cell? ⟨(ad'.add (i * 13)).block, (ad'.add (i * 13)).off + 8, none⟩ = some (.string T1.f6) ∧ w'.cell? ⟨(ad'.add (i * 13)).block, (ad'.add (i * 13)).off + 9, none⟩ = some (.bool T1.f7) ∧ w'.cell? ⟨(ad'.add (i * 13)).block, (ad'.add (i * 13)).off + 10, none⟩ = some (.slice A10' T1.f8.length c10') ∧ w'.cell? ⟨(ad'.add (i * 13)).block, (ad'.add (i * 13)).off + 11, none⟩ = some (.slice A11' T1.f9.length c11') ∧ w'.cell? ⟨(ad'.add (i * 13)).block, (ad'.add (i * 13)).off + 12, none⟩ = some (.slice A12' 0 c12')) (fun hk v0 hs hb => ?_)
   clear y0 z0 x0 u0 x1 u1 x2 u2 x3 u3 x4 u4 x5 u5 x6 u6 x7 u7 x8 u8 x9 u9 x10 u10 x11 u11 x12 u12 hb
   refine pu 0 27 1 ?_
   refine ta 1 28 3 ?_
   refine pu 2 29 7 ?_
   refine pu 3 30 15 ?_
   refine ta 4 31 31 ?_
   refine pu 5 32 63 ?_
   refine ta 6 33 127 ?_
   refine pu 7 34 255 ?_
   refine pu 8 35 511 ?_
   refine ta 9 36 1023 ?_
   refine ca 10 37 2047 Tryz.func14 #[.agg #[.string n1, .bool o1, .int .i64 T1.f0, .int .i64 T1.f1, .bool T1.f2, .int .i64 T1.f3, .int .i64 T1.f4, .int .i64 T1.f5, .string T1.f6, .bool T1.f7, .slice A10 T1.f8.length c10, .slice A11 T1.f9.length c11, .slice A12 0 c12], .agg #[.string n1, .bool o1, .int .i64 T1.f0, .int .i64 T1.f1, .bool T1.f2, .int .i64 T1.f3, .int .i64 T1.f4, .int .i64 T1.f5, .string T1.f6, .bool T1.f7, .slice A10' T1.f8.length c10', .slice A11' T1.f9.length c11', .slice A12' 0 c12']] hk hs (sm14 n1 n1 o1 o1 T1 T1 (sm19D 4 T1 T1 t t HI.out.2.2.2.2 HI.out.2.2.2.2) v0 A10 A11 A10' A11' c10 c11 c10' c11' A12 A12' c12 c12' (Kd.C_below HI.out.1 hs.1) (Kd.C_below HI.out.2.1 hs.1) (Kd.C_below HI.out.2.2.1 hs.1) (Kd.C_below HI.out.2.2.2.1 hs.1)) (fun e v1 hR hs1 hb1 => ?_)
   obtain ⟨r, rfl, hr⟩ := hR
   obtain rfl : r = true := hr.mpr ⟨rfl, rfl, rfl⟩
   refine ⟨_, rfl, no 37 ?_⟩
   have HW := Aside0.mk (below_step hA.out.2 hs1.1)
   clear hr hs hs1 hb1 hk
   refine pu 11 38 4095 ?_
   refine done_ (by kernel_rfl) ?_
   go_wp2
   have h1 := hA.out.1
   go_roundg (fs.length - (i + 1))
   case measure => omega
   case rel => exact ⟨i + 1, by first | go_num | (rw [E1.out]), ⟨⟨by omega, HW.out⟩⟩⟩
  ·have hd : decide ((i : Int) < (fs.length : Int)) = false := by simpa using hi
   go_wp2
   go_ret
   exact ⟨rfl, below_step H2.out.1 hA.out.2⟩
end Go.Proofs.YteebgnhhjlgnjaaGreatDoor.V
