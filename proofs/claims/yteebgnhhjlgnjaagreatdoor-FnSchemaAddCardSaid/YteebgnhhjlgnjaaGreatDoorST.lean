/- arrow.StructOf. -/
import Derived.Test.YteebgnhhjlgnjaaGreatDoorD0
import Derived.Test.YteebgnhhjlgnjaaGreatDoorMP
import Derived.Test.YteebgnhhjlgnjaaGreatDoorAT1
import Derived.OrdersHeld
namespace Go.Proofs.YteebgnhhjlgnjaaGreatDoor.V
open Go.RowKit Go.Proofs.YteebgnhhjlgnjaaGreatDoorW.PrintWords Go.Proofs.YteebgnhhjlgnjaaGreatDoorW.PrintLast Go.Proofs.YteebgnhhjlgnjaaGreatDoorW.PrintMore
set_option maxHeartbeats 40000000
set_option maxRecDepth 100000
set_option linter.unusedVariables false
set_option linter.unusedSimpArgs false
def RowAt (W : World) (ok : Nat → Prop) (A : Option Addr) (ds : List DF) : Prop := 0 < ds.length → ∃ ad, A = some ad ∧ ∀ (j : Nat) (hj : j < ds.length), ∃ cs, DFIn W ok ds[j] cs ∧ ∀ i u, cs[i]? = some u → W.cell? (ad.add (j * 5 + i)) = some u
theorem RowAt.below {W W' : World} {ok : Nat → Prop} {A : Option Addr} {ds : List DF} (h : RowAt W ok A ds) (hb : Below W.heap.size W W') : RowAt W' ok A ds := fun h0 => by
 obtain ⟨ad, e, hr⟩ := h h0
 refine ⟨ad, e, fun j hj => ?_⟩
 obtain ⟨cs, hf, hc⟩ := hr j hj
 exact ⟨cs, DFIn.step (fun k q cells hk hl _ hc => ⟨(hb.block k hl).trans hc, hk⟩) hf, fun i u hu => pw_cell_below hb (hc i u hu)⟩
def FRow (W : World) (ok : Nat → Prop) (F : Nat) (ds : List DF) (i : Nat) : Prop := ∃ arr, W.heap[F]? = some (.cells arr 61 (0, 0)) ∧ arr.size = ds.length * 5 ∧ ∀ (j : Nat) (hj : j < ds.length), j < i → DFIn W ok ds[j] ((arr.toList.drop (j * 5)).take 5)
theorem DFIn.kept {W W' : World} {ok : Nat → Prop} {row : Option Nat} (hg : W.grownBy W' row) (ht : ∀ g, row = some g → ∀ cs q, W.heap[g]? = some (.cells cs q (0, 0)) → q ∉ DE) {f : DF} {cs : List Value} (h : DFIn W ok f cs) : DFIn W' ok f cs :=
 DFIn.step (fun k q cells hk hl hq hc => ⟨(hg.block k hl (fun e => ht k e.symm cells q hc hq)).trans hc, hk⟩) h
theorem blk_kept_ {W W' : World} {row : Option Nat} (hg : W.grownBy W' row) {q : Nat} {g : Nat} {cs : Array Value} (ht : ∀ g, row = some g → ∀ cs, W.heap[g]? ≠ some (.cells cs q (0, 0))) (h : W.heap[g]? = some (.cells cs q (0, 0))) : W'.heap[g]? = some (.cells cs q (0, 0)) :=
 (hg.block g (blk_lt h) (fun e => ht g e.symm cs h)).trans h
theorem FRow.kept {W W' : World} {ok : Nat → Prop} {F : Nat} {ds : List DF} {i : Nat} {row : Option Nat} (h : FRow W ok F ds i) (hg : W.grownBy W' row) (ht : ∀ g, row = some g → ∀ cs q, W.heap[g]? = some (.cells cs q (0, 0)) → q ∉ DE) : FRow W' ok F ds i := by
 obtain ⟨arr, hF, hs, hd⟩ := h
 exact ⟨arr, blk_kept_ hg (fun g e cs hc => ht g e cs 61 hc (by decide)) hF, hs, fun j hj hlt => DFIn.kept hg ht (hd j hj hlt)⟩
def put5 (W : World) (F m : Nat) (v0 v1 v2 v3 v4 : Value) : World := ((((W.setCell ⟨F, m, none⟩ v0).setCell ⟨F, m + 1, none⟩ v1).setCell ⟨F, m + 2, none⟩ v2).setCell ⟨F, m + 3, none⟩ v3).setCell ⟨F, m + 4, none⟩ v4
theorem put5_other (W : World) (F m : Nat) (v0 v1 v2 v3 v4 : Value) (k : Nat) (hk : k ≠ F) : (put5 W F m v0 v1 v2 v3 v4).heap[k]? = W.heap[k]? := by
 unfold put5
 rw [heap_setCell_other _ _ _ _ hk, heap_setCell_other _ _ _ _ hk, heap_setCell_other _ _ _ _ hk, heap_setCell_other _ _ _ _ hk, heap_setCell_other _ _ _ _ hk]
theorem put5_below {w W : World} {F m : Nat} {v0 v1 v2 v3 v4 : Value} (h : Below w.heap.size w W) (hF : w.heap.size ≤ F) : Below w.heap.size w (put5 W F m v0 v1 v2 v3 v4) := by
 unfold put5
 exact ((((h.setCell (p := ⟨F, m, none⟩) hF _).setCell (p := ⟨F, m + 1, none⟩) hF _).setCell (p := ⟨F, m + 2, none⟩) hF _).setCell (p := ⟨F, m + 3, none⟩) hF _).setCell (p := ⟨F, m + 4, none⟩) hF _
theorem set_grown {W W' : World} {F : Nat} (h : W.grownBy W' (some F)) (m : Nat) (v : Value) : W.grownBy (W'.setCell ⟨F, m, none⟩ v) (some F) :=
 ⟨h.os, h.tape, h.output, by rw [show (W'.setCell ⟨F, m, none⟩ v).heap.size = W'.heap.size from by simp [World.setCell]]; exact h.size, fun k hl hk => (heap_setCell_other W' ⟨F, m, none⟩ k v (fun e => hk (by rw [e]))).trans (h.block k hl hk)⟩
theorem put5_grown (W : World) (F m : Nat) (v0 v1 v2 v3 v4 : Value) : W.grownBy (put5 W F m v0 v1 v2 v3 v4) (some F) := by
 unfold put5
 have h0 : W.grownBy W (some F) := ⟨rfl, rfl, rfl, Nat.le_refl _, fun _ _ _ => rfl⟩
 exact set_grown (set_grown (set_grown (set_grown (set_grown h0 _ _) _ _) _ _) _ _) _ _
theorem put5_row {W : World} {F t m : Nat} {arr : Array Value} (h : W.heap[F]? = some (.cells arr t (0, 0))) (v0 v1 v2 v3 v4 : Value) : (put5 W F m v0 v1 v2 v3 v4).heap[F]? = some (.cells (((((arr.setIfInBounds m v0).setIfInBounds (m + 1) v1).setIfInBounds (m + 2) v2).setIfInBounds (m + 3) v3).setIfInBounds (m + 4) v4) t (0, 0)) := by
 unfold put5
 have h1 := blk_set h m v0
 have h2 := blk_set h1 (m + 1) v1
 have h3 := blk_set h2 (m + 2) v2
 have h4 := blk_set h3 (m + 3) v3
 exact blk_set h4 (m + 4) v4
theorem arr5_size (arr : Array Value) (m : Nat) (v0 v1 v2 v3 v4 : Value) : (((((arr.setIfInBounds m v0).setIfInBounds (m + 1) v1).setIfInBounds (m + 2) v2).setIfInBounds (m + 3) v3).setIfInBounds (m + 4) v4).size = arr.size := by simp
theorem set_get (a : Array Value) (m k : Nat) (v : Value) (h : m < a.size) : (a.setIfInBounds m v)[k]? = if k = m then some v else a[k]? := by
 rw [Array.getElem?_setIfInBounds]
 by_cases e : m = k
 ·subst e
  rw [if_pos rfl, if_pos rfl, if_pos h]
 ·rw [if_neg e, if_neg (fun e' => e e'.symm)]
theorem arr5_get (arr : Array Value) (m : Nat) (v0 v1 v2 v3 v4 : Value) (h : m + 5 ≤ arr.size) (k : Nat) : (((((arr.setIfInBounds m v0).setIfInBounds (m + 1) v1).setIfInBounds (m + 2) v2).setIfInBounds (m + 3) v3).setIfInBounds (m + 4) v4)[k]? = if k = m + 4 then some v4 else if k = m + 3 then some v3 else if k = m + 2 then some v2 else if k = m + 1 then some v1 else if k = m then some v0 else arr[k]? := by
 rw [set_get _ _ _ _ (by simp; omega), set_get _ _ _ _ (by simp; omega), set_get _ _ _ _ (by simp; omega), set_get _ _ _ _ (by simp; omega), set_get _ _ _ _ (by omega)]
theorem take5 (l : List Value) (m : Nat) (v0 v1 v2 v3 v4 : Value) (h0 : l[m]? = some v0) (h1 : l[m + 1]? = some v1) (h2 : l[m + 2]? = some v2) (h3 : l[m + 3]? = some v3) (h4 : l[m + 4]? = some v4) : (l.drop m).take 5 = [v0, v1, v2, v3, v4] := by
 apply List.ext_getElem?
 intro j
 rw [List.getElem?_take]
 match j with
 | 0 => simpa using h0
 | 1 => simpa using h1
 | 2 => simpa using h2
 | 3 => simpa using h3
 | 4 => simpa using h4
 | n + 5 => rw [if_neg (by omega)]; rfl
theorem arr5_here (arr : Array Value) (m : Nat) (v0 v1 v2 v3 v4 : Value) (h : m + 5 ≤ arr.size) : ((((((arr.setIfInBounds m v0).setIfInBounds (m + 1) v1).setIfInBounds (m + 2) v2).setIfInBounds (m + 3) v3).setIfInBounds (m + 4) v4).toList.drop m).take 5 = [v0, v1, v2, v3, v4] := by
 apply take5 <;> rw [Array.getElem?_toList, arr5_get arr m v0 v1 v2 v3 v4 h] <;> simp
theorem arr5_there (arr : Array Value) (m m' : Nat) (v0 v1 v2 v3 v4 : Value) (h : m + 5 ≤ arr.size) (hm : m' + 5 ≤ m ∨ m + 5 ≤ m') : ((((((arr.setIfInBounds m v0).setIfInBounds (m + 1) v1).setIfInBounds (m + 2) v2).setIfInBounds (m + 3) v3).setIfInBounds (m + 4) v4).toList.drop m').take 5 = (arr.toList.drop m').take 5 := by
 apply List.ext_getElem?
 intro j
 rw [List.getElem?_take, List.getElem?_take]
 by_cases hj : j < 5
 ·rw [if_pos hj, if_pos hj, List.getElem?_drop, List.getElem?_drop, Array.getElem?_toList, Array.getElem?_toList, arr5_get arr m v0 v1 v2 v3 v4 h]
  rw [if_neg (by omega), if_neg (by omega), if_neg (by omega), if_neg (by omega), if_neg (by omega)]
 ·rw [if_neg hj, if_neg hj]
theorem info_parts61 : ∃ i0, Tryz.prog.info? 61 = some i0 ∧ i0.zero = some (.agg #[.string ⟨#[]⟩, .nilIface, .bool false, .slice none 0 0, .slice none 0 0]) ∧ i0.size = 5 ∧ i0.bytes = 88 := by
 obtain ⟨i0, hi, h⟩ := Option.map_eq_some_iff.1 info61
 simp only [Prod.mk.injEq] at h
 exact ⟨i0, hi, h.1, h.2.1, h.2.2⟩
theorem make61 (n : Nat) (hn : n < 2 ^ 40) (W : World) : (Instr.makeSlice 79 (.int .i64 (n : Int)) (.int .i64 (n : Int))).run Tryz.prog W = .ok (.slice (some ⟨W.heap.size, 0, none⟩) n n) (W.alloc (.cells (madeCells #[.string ⟨#[]⟩, .nilIface, .bool false, .slice none 0 0, .slice none 0 0] (n * 5)) 61)) := by
 obtain ⟨i0, hi, hz, hs, hb⟩ := info_parts61
 have h := run_make W 79 61 i0 _ Tryz.underlying79 hi hz .i64 .i64 (n : Int) (n : Int) (by omega) (by omega) (by rw [hb]; omega) (by omega)
 rw [hs] at h
 exact h
theorem make82 (n : Nat) (W : World) : (Instr.makeMap 82 (some (.int .i64 (n : Int)))).run Tryz.prog W = .ok (.map (some W.heap.size)) (W.alloc (.map #[] 0)) := by
 simp [Instr.makeMap, run_underlying Tryz.underlying82, asInt, asIntOf, newObj, Sem.run, Result.andThen]
theorem struct85 (ds : List DF) (hn : 0 < ds.length) (hl : ds.length < 2 ^ 30) (hs : ∀ d ∈ ds, d.name.size ≤ maxLen) (A : Option Addr) (c : Nat) (ok : Nat → Prop) (w : World) (hok : ∀ k, ok k → k < w.heap.size) (hR : RowAt w ok A ds) :
 Calls Tryz.prog 85 #[.slice A ds.length c] w fun e w' => ∃ g F M, e = .returned (.pointer (some ⟨g, 0, none⟩)) ∧ w.heap.size ≤ g ∧ w'.heap[g]? = some (.cells #[.slice (some ⟨F, 0, none⟩) ds.length ds.length, .map (some M), .slice none 0 0, .slice none 0 0] 167 (0, 0)) ∧ w.heap.size ≤ F ∧ FRow w' ok F ds ds.length ∧ Below w.heap.size w w' := by
 have hmk := make61 ds.length (by omega)
 have hmm := make82 ds.length
 have h0 : ((ds.length : Int) == 0) = false := beq_eq_false_iff_ne.2 (by omega)
 have HO := Aside0.mk hok
 clear hok
 have HH := Aside0.mk (And.intro hR (And.intro hs hn))
 clear hR hs hn
 go_enter Tryz.func85, Tryz.ntmps85
 go_upto_region 4 with fail
 go_cut [4] (fun v4 wc => ∃ T F M, v4 = .pointer (some ⟨T, 0, none⟩) ∧ Aside0 (wc.heap[T]? = some (.cells #[.slice (some ⟨F, 0, none⟩) ds.length ds.length, .map (some M), .slice none 0 0, .slice none 0 0] 167 (0, 0)) ∧ wc.heap[F]? = some (.cells (madeCells #[.string ⟨#[]⟩, .nilIface, .bool false, .slice none 0 0, .slice none 0 0] (ds.length * 5)) 61 (0, 0)) ∧ (∃ B, w.heap.size ≤ B ∧ B ≤ wc.heap.size ∧ Grp wc B M 0) ∧ w.heap.size ≤ T ∧ w.heap.size ≤ F ∧ w.heap.size ≤ M ∧ Below w.heap.size w wc))
 case first =>
  go_region
  ·go_wp2
   go_meet
   case rel =>
    refine ⟨_, w.heap.size, w.heap.size + 1, rfl, ⟨⟨blk_drew_ (blk_new_at (by simp)), blk_drew_ (blk_alloc_ (blk_alloc_ (blk_new_at rfl))), ⟨w.heap.size + 2, by omega, by simp, ?_⟩, by omega, by omega, by omega, bl⟩⟩⟩
    have h1 := Grp.made (w.alloc (.cells (madeCells #[.string ⟨#[]⟩, .nilIface, .bool false, .slice none 0 0, .slice none 0 0] (ds.length * 5)) 61))
    rw [World.size_alloc] at h1
    exact h1.below (b3_ (b1_ (Below.refl _ _) _))
  ·go_wp2
   go_meet
   case rel =>
    refine ⟨_, w.heap.size + 1, w.heap.size, rfl, ⟨⟨blk_drew_ (blk_new_at (by simp)), blk_drew_ (blk_alloc_ (blk_new_at (by simp))), ⟨w.heap.size + 1, by omega, by simp, ?_⟩, by omega, by omega, by omega, bl⟩⟩⟩
    exact (Grp.made w).below (b3_ (b1_ (b1_ (Below.refl _ _) _) _))
 obtain ⟨T, F, M, rfl, hA⟩ := hcut
 clear hmk hmm h0
 go_wp2
 go_loopg [23] ds.length (fun kq v23 wr => ∃ i : Nat, v23 = .int .i64 (i : Int) ∧ Aside0 (i + kq = ds.length ∧ wr.heap[T]? = some (.cells #[.slice (some ⟨F, 0, none⟩) ds.length ds.length, .map (some M), .slice none 0 0, .slice none 0 0] 167 (0, 0)) ∧ FRow wr ok F ds i ∧ (∃ B, w.heap.size ≤ B ∧ B ≤ wr.heap.size ∧ Grp wr B M i) ∧ Below w.heap.size w wr))
 case atStart =>
  obtain ⟨a1, a2, a3, a4, a5, a6, a7⟩ := hA.out
  exact ⟨0, rfl, ⟨⟨by omega, a1, ⟨_, a2, size_madeCells _ _, fun j hj h => absurd h (by omega)⟩, a3, a7⟩⟩⟩
 case round =>
  obtain ⟨i, rfl, hL⟩ := hrel
  by_cases hi : i < ds.length
  ·have hd : decide ((i : Int) < (ds.length : Int)) = true := by simpa using hi
   obtain ⟨hR, hs, hn⟩ := HH.out
   obtain ⟨l1, l2, l3, l4, l5⟩ := hL.out
   obtain ⟨ad, rfl, hrow⟩ := hR.below l5 hn
   obtain ⟨cs, hf, hcell⟩ := hrow i hi
   have hsz := hs _ (List.getElem_mem hi)
   generalize hdi : ds[i] = di at hf hsz
   obtain ⟨n, dt, b⟩ := di
   obtain ⟨x, rfl, hx⟩ := hf
   obtain ⟨tq, ta, rfl⟩ := hx.form
   have x0 : wr.cell? (ad.add (i * 5)) = some (.string n) := hcell 0 _ rfl
   have x1 : wr.cell? ⟨(ad.add (i * 5)).block, (ad.add (i * 5)).off + 1, none⟩ = some (.iface tq (.pointer (some ta))) := by rw [← add_field _ _ 1 (by omega)]; exact hcell 1 _ rfl
   have x2 : wr.cell? ⟨(ad.add (i * 5)).block, (ad.add (i * 5)).off + 2, none⟩ = some (.bool b) := by rw [← add_field _ _ 2 (by omega)]; exact hcell 2 _ rfl
   have x3 : wr.cell? ⟨(ad.add (i * 5)).block, (ad.add (i * 5)).off + 3, none⟩ = some (.slice none 0 0) := by rw [← add_field _ _ 3 (by omega)]; exact hcell 3 _ rfl
   have x4 : wr.cell? ⟨(ad.add (i * 5)).block, (ad.add (i * 5)).off + 4, none⟩ = some (.slice none 0 0) := by rw [← add_field _ _ 4 (by omega)]; exact hcell 4 _ rfl
   have HK := Aside0.mk (And.intro hdi (And.intro hx hsz))
   clear hR hs hn l1 l2 l3 l4 l5 hrow hcell hdi hx hsz
   go_upto_region 10 with fail
   refine wp_at ?_
   intro w1 hw1
   obtain ⟨hdi, hx, hsz⟩ := HK.out
   obtain ⟨l1, l2, l3, ⟨B, hB, hB2, l4⟩, l5⟩ := hL.out
   obtain ⟨XT, hXT⟩ : ∃ XT : Array Value, XT = #[.slice (some ⟨F, 0, none⟩) ds.length ds.length, .map (some M), .slice none 0 0, .slice none 0 0] := ⟨_, rfl⟩
   obtain ⟨XF, hXF⟩ : ∃ XF : Array Value, XF = #[.string n, .iface tq (.pointer (some ta)), .bool b, .slice none 0 0, .slice none 0 0] := ⟨_, rfl⟩
   have k1 : Below wr.heap.size wr w1.drew := by rw [hw1]; exact ((Below.refl _ _).alloc (Nat.le_refl _) _).drew
   have bT : w1.drew.heap[T]? = some (.cells XT 167 (0, 0)) := by rw [hXT]; exact blk_below l2 k1
   have bG : w1.drew.heap[wr.heap.size]? = some (.cells XF 61 (0, 0)) := by rw [hw1, hXF]; exact blk_drew_ (blk_new_at rfl)
   have B1 : Below w.heap.size w w1.drew := below_step l5 k1
   have g1 : Grp w1.drew B M i := l4.below k1
   obtain ⟨arr, hF, hsize, hdone⟩ := l3
   have bF : w1.drew.heap[F]? = some (.cells arr 61 (0, 0)) := blk_below hF k1
   have dF : ∀ (j : Nat) (hj : j < ds.length), j < i → DFIn w1.drew ok ds[j] ((arr.toList.drop (j * 5)).take 5) := fun j hj hlt => DFIn.step (fun k q cells hk hl _ hc => ⟨(k1.block k hl).trans hc, hk⟩) (hdone j hj hlt)
   have dX : DTIn w1.drew ok dt (.iface tq (.pointer (some ta))) := hx.below k1
   have hFG : F ≠ wr.heap.size := Nat.ne_of_lt (blk_lt hF)
   have hFT : F ≠ T := blk_ne hF l2 (by decide)
   have s1 : wr.heap.size ≤ w1.drew.heap.size := k1.size
   clear hw1 hx l2 l4 l5 k1 hF hdone x0 x1 x2 x3 x4
   refine start_ (n := 17) (S := fun w' => w'.heap[T]? = some (.cells XT 167 (0, 0)) ∧ w'.heap[wr.heap.size]? = some (.cells XF 61 (0, 0))) (ds := [16]) (ba 17 0) (by kernel_rfl) rfl rfl ⟨bT, bG⟩ (fun hHeld => ?_)
   refine pu 0 32 1 ?_
   refine pu 1 33 3 ?_
   refine pu 2 34 7 ?_
   refine take_ (i := 3) (N := some 35) (v := ?_) (a' := ?_) (ba 17 15) rfl rfl (by kernel_rfl) (fun _ _ _ h => h) (Or.inl ⟨by rfl, ?_⟩) hHeld ?_ ?_
   rotate_left
   ·intro w' s0
    have d0 := (blk_cell s0.1 0).trans (show _ = some (.slice (some ⟨F, 0, none⟩) ds.length ds.length : Value) from by rw [hXT]; rfl)
    clear s0
    go_simp
    with_reducible rfl
   rotate_left
   ·simp only [Act.put, s1_, s2_, s3_, i64_w, i32_w]
    rfl
   refine pu 4 36 31 ?_
   refine pu 5 37 63 ?_
   refine take_ (i := 6) (N := some 38) (v := ?_) (a' := ?_) (ba 17 127) rfl rfl (by kernel_rfl) (fun _ _ _ h => h) (Or.inl ⟨by rfl, ?_⟩) hHeld ?_ ?_
   rotate_left
   ·intro w' s0
    have d0 := (blk_cell s0.2 0).trans (show _ = some (.string n : Value) from by rw [hXF]; rfl)
    clear s0
    go_simp
    with_reducible rfl
   rotate_left
   ·simp only [Act.put, s1_, s2_, s3_, i64_w, i32_w]
    rfl
   refine pu 7 39 255 ?_
   refine take_ (i := 8) (N := some 40) (v := ?_) (a' := ?_) (ba 17 511) rfl rfl (by kernel_rfl) (fun _ _ _ h => h) (Or.inl ⟨by rfl, ?_⟩) hHeld ?_ ?_
   rotate_left
   ·intro w' s0
    have d1 := (blk_cell s0.2 1).trans (show _ = some (.iface tq (.pointer (some ta)) : Value) from by rw [hXF]; rfl)
    clear s0
    go_simp
    with_reducible rfl
   rotate_left
   ·simp only [Act.put, s1_, s2_, s3_, i64_w, i32_w]
    rfl
   refine pu 9 41 1023 ?_
   refine take_ (i := 10) (N := some 42) (v := ?_) (a' := ?_) (ba 17 2047) rfl rfl (by kernel_rfl) (fun _ _ _ h => h) (Or.inl ⟨by rfl, ?_⟩) hHeld ?_ ?_
   rotate_left
   ·intro w' s0
    have d2 := (blk_cell s0.2 2).trans (show _ = some (.bool b : Value) from by rw [hXF]; rfl)
    clear s0
    go_simp
    with_reducible rfl
   rotate_left
   ·simp only [Act.put, s1_, s2_, s3_, i64_w, i32_w]
    rfl
   refine pu 11 43 4095 ?_
   refine take_ (i := 12) (N := some 44) (v := ?_) (a' := ?_) (ba 17 8191) rfl rfl (by kernel_rfl) (fun _ _ _ h => h) (Or.inl ⟨by rfl, ?_⟩) hHeld ?_ ?_
   rotate_left
   ·intro w' s0
    have d3 := (blk_cell s0.2 3).trans (show _ = some (.slice none 0 0 : Value) from by rw [hXF]; rfl)
    have d4 := (blk_cell s0.2 4).trans (show _ = some (.slice none 0 0 : Value) from by rw [hXF]; rfl)
    clear s0
    go_simp
    with_reducible rfl
   rotate_left
   ·simp only [Act.put, s1_, s2_, s3_, i64_w, i32_w]
    rfl
   refine one_ (i := 13) (N := some 45) (ba 17 16383) rfl rfl (by kernel_rfl) (by decide) (fun K hK => ?_)
   refine goes_ Tryz.func97 (by kernel_rfl) rfl #[(.agg #[.slice none 0 0, .slice none 0 0])] (by rfl) rfl rfl (by (try simp only [List.map_toArray, List.map_cons, List.map_nil]); rfl) ?_
   refine (clone97 _).mono ?_
   rintro e w2 ⟨rfl, hb⟩
   refine ⟨_, rfl, ?_⟩
   have bT2 := blk_below bT hb
   have bG2 := blk_below bG hb
   have B2 := below_step B1 hb
   have g2 := g1.below hb
   have bF2 := blk_below bF hb
   have dF2 : ∀ (j : Nat) (hj : j < ds.length), j < i → DFIn w2 ok ds[j] ((arr.toList.drop (j * 5)).take 5) := fun j hj hlt => DFIn.step (fun k q cells hk hl _ hc => ⟨(hb.block k hl).trans hc, hk⟩) (dF j hj hlt)
   have dX2 := dX.below hb
   have hb2s := hb.size
   clear bT bG B1 g1 bF dF dX hb
   refine hK.out _ _ ⟨bT2, bG2⟩ (fun hHeld => ?_)
   clear hK K
   refine norm_ (a' := ?_) ?_ ?_
   rotate_left
   ·show Act.put _ (some 45) _ = _
    simp only [Act.put, s1_, s2_, s3_]
    rfl
   refine pu 14 46 32767 ?_
   refine pu 15 47 65535 ?_
   have h5 : i * 5 + 5 ≤ arr.size := by omega
   obtain ⟨e0, y0⟩ : ∃ e, w2.cell? ⟨F, i * 5, none⟩ = some e := by rw [blk_cell bF2]; exact ⟨_, Array.getElem?_eq_getElem (by omega)⟩
   have f0 := blk_frozen bF2 (i * 5)
   obtain ⟨e1, y1⟩ : ∃ e, w2.cell? ⟨F, i * 5 + 1, none⟩ = some e := by rw [blk_cell bF2]; exact ⟨_, Array.getElem?_eq_getElem (by omega)⟩
   have f1 := blk_frozen bF2 (i * 5 + 1)
   obtain ⟨e2, y2⟩ : ∃ e, w2.cell? ⟨F, i * 5 + 2, none⟩ = some e := by rw [blk_cell bF2]; exact ⟨_, Array.getElem?_eq_getElem (by omega)⟩
   have f2 := blk_frozen bF2 (i * 5 + 2)
   obtain ⟨e3, y3⟩ : ∃ e, w2.cell? ⟨F, i * 5 + 3, none⟩ = some e := by rw [blk_cell bF2]; exact ⟨_, Array.getElem?_eq_getElem (by omega)⟩
   have f3 := blk_frozen bF2 (i * 5 + 3)
   obtain ⟨e4, y4⟩ : ∃ e, w2.cell? ⟨F, i * 5 + 4, none⟩ = some e := by rw [blk_cell bF2]; exact ⟨_, Array.getElem?_eq_getElem (by omega)⟩
   have f4 := blk_frozen bF2 (i * 5 + 4)
   obtain ⟨wF, hwF⟩ : ∃ wF, wF = put5 w2 F (i * 5) (.string n) (.iface tq (.pointer (some ta))) (.bool b) (.slice none 0 0) (.slice none 0 0) := ⟨_, rfl⟩
   have pT : wF.heap[T]? = some (.cells XT 167 (0, 0)) := by rw [hwF, put5_other _ _ _ _ _ _ _ _ _ (fun e => hFT e.symm)]; exact bT2
   have pG : wF.heap[wr.heap.size]? = some (.cells XF 61 (0, 0)) := by rw [hwF, put5_other _ _ _ _ _ _ _ _ _ (fun e => hFG e.symm)]; exact bG2
   have hsF : w1.drew.heap.size ≤ wF.heap.size := by rw [hwF]; exact Nat.le_trans hb2s (put5_grown w2 F (i * 5) _ _ _ _ _).size
   have hFw : w.heap.size ≤ F := hA.out.2.2.2.2.1
   have hok : ∀ k, ok k → k ≠ F := fun k hk => Nat.ne_of_lt (Nat.lt_of_lt_of_le (HO.out k hk) hFw)
   have pB : Below w.heap.size w wF := by rw [hwF]; exact put5_below B2 hFw
   have pg : Grp wF B M i := by
    rw [hwF]
    exact g2.kept (put5_grown _ _ _ _ _ _ _ _) (fun g e => by cases e; exact ⟨_, _, bF2, by decide⟩)
   have pF : FRow wF ok F ds (i + 1) := by
    rw [hwF]
    refine ⟨_, put5_row bF2 _ _ _ _ _, by rw [arr5_size]; exact hsize, fun j hj hlt => ?_⟩
    have hst : ∀ {f : DF} {cs : List Value}, DFIn w2 ok f cs → DFIn (put5 w2 F (i * 5) (.string n) (.iface tq (.pointer (some ta))) (.bool b) (.slice none 0 0) (.slice none 0 0)) ok f cs := fun h => DFIn.step (fun k q cells hk hl hq hc => ⟨by rw [put5_other _ _ _ _ _ _ _ _ _ (hok k hk)]; exact hc, hk⟩) h
    by_cases e : j = i
    ·subst e
     rw [arr5_here _ _ _ _ _ _ _ h5, hdi]
     exact hst ⟨_, rfl, dX2⟩
    ·rw [arr5_there _ _ _ _ _ _ _ _ h5 (by omega)]
     exact hst (dF2 j hj (by omega))
   have HF := Aside0.mk hwF
   clear hwF bT2 bG2 B2 g2 bF2 dF2 dX2 hdi h5
   refine last_ (i := 16) (N := none) (ba 17 131071) rfl rfl (by kernel_rfl) (by decide) (fun K hK => ?_)
   refine skip_ (w1 := wF) (by rfl) rfl ?_ ?_
   ·go_simp
    rw [HF.out]
    rfl
   clear y0 y1 y2 y3 y4 f0 f1 f2 f3 f4 HF
   refine hK.out _ _ ?_
   clear hK K
   refine done_ (by kernel_rfl) ?_
   have hBF : B ≤ wF.heap.size := Nat.le_trans hB2 (Nat.le_trans s1 (Nat.le_of_lt_succ (Nat.lt_succ_of_le hsF)))
   have HP := Aside0.mk (And.intro pB (And.intro pg (And.intro pF (And.intro hBF (And.intro hFw l1)))))
   clear hHeld pB pg pF hBF hFw l1 hsF s1 hB2 hsize hFT hFG hok
   clear hb2s hHeld
   go_upto_region 11 with fail
   refine wp_at ?_
   intro w3 hw3
   subst hw3
   have qT : w3.drew.heap[T]? = some (.cells XT 167 (0, 0)) := pT
   have qG : w3.drew.heap[wr.heap.size]? = some (.cells XF 61 (0, 0)) := pG
   have hnm : n.size ≤ maxLen := hsz
   have pg3 : Grp w3.drew B M i := HP.out.2.1.below (b3_ (Below.refl _ _))
   obtain ⟨lv, lok, zs, hl1, _, ho, hzl, hback⟩ := pg3.look (by unfold maxLen; omega) n hnm
   have HQ := Aside0.mk (And.intro ho (And.intro hzl hback))
   clear pT pG hsz pg3 ho hzl hback hnm
   refine start_ (n := 12) (S := fun w' => w'.heap[T]? = some (.cells XT 167 (0, 0)) ∧ w'.heap[wr.heap.size]? = some (.cells XF 61 (0, 0))) (ds := []) (ba 12 0) (by kernel_rfl) rfl rfl ⟨qT, qG⟩ (fun hHeld => ?_)
   refine pu 0 49 1 ?_
   refine pu 1 50 3 ?_
   refine pu 2 51 7 ?_
   refine take_ (i := 3) (N := some 52) (v := ?_) (a' := ?_) (ba 12 15) rfl rfl (by kernel_rfl) (fun _ _ _ h => h) (Or.inl ⟨by rfl, ?_⟩) hHeld ?_ ?_
   rotate_left
   ·intro w' s0
    have d0 := (blk_cell s0.1 1).trans (show _ = some (.map (some M) : Value) from by rw [hXT]; rfl)
    clear s0
    go_simp
    with_reducible rfl
   rotate_left
   ·simp only [Act.put, s1_, s2_, s3_, i64_w, i32_w]
    rfl
   refine pu 4 53 31 ?_
   refine take_ (i := 5) (N := some 54) (v := ?_) (a' := ?_) (ba 12 63) rfl rfl (by kernel_rfl) (fun _ _ _ h => h) (Or.inl ⟨by rfl, ?_⟩) hHeld ?_ ?_
   rotate_left
   ·intro w' s0
    have d0 := (blk_cell s0.2 0).trans (show _ = some (.string n : Value) from by rw [hXF]; rfl)
    clear s0
    go_simp
    with_reducible rfl
   rotate_left
   ·simp only [Act.put, s1_, s2_, s3_, i64_w, i32_w]
    rfl
   refine one_ (i := 6) (N := some 55) (ba 12 127) rfl rfl (by kernel_rfl) (by decide) (fun K hK => ?_)
   refine value_ (v := .tuple #[lv, .bool lok]) (w1 := w3.drew) (by rfl) rfl ?_ ?_
   ·first | (go_simp; done) | (go_simp; rw [hl1])
   refine hK.out _ _ ⟨qT, qG⟩ (fun hHeld => ?_)
   clear hK K
   refine norm_ (a' := ?_) ?_ ?_
   rotate_left
   ·show Act.put _ (some 55) _ = _
    simp only [Act.put, s1_, s2_, s3_]
    rfl
   refine pu 7 48 255 ?_
   refine pu 8 56 511 ?_
   refine pu 9 57 1023 ?_
   refine pu 10 7 2047 ?_
   refine pu 11 8 4095 ?_
   refine done_ (by kernel_rfl) ?_
   clear hHeld hl1
   cases lok with
   | true =>
    go_upto_region 13 with fail
    refine wp_at ?_
    intro w4 hw4
    rw [← hw4] at qT qG HQ
    have bT : w4.drew.heap[T]? = some (.cells XT 167 (0, 0)) := qT
    have bG : w4.drew.heap[wr.heap.size]? = some (.cells XF 61 (0, 0)) := qG
    have hz4 : w3.heap.size = w4.heap.size := by rw [hw4]; rfl
    have h4 : ∀ k : Nat, w4.drew.heap[k]? = w3.heap[k]? := fun k => by rw [hw4]; rfl
    have B4 : Below w.heap.size w w4.drew := by rw [hw4]; exact b3_ (b3_ HP.out.1)
    have F4 : FRow w4.drew ok F ds (i + 1) := by rw [hw4]; exact HP.out.2.2.1.kept (row := none) ⟨rfl, rfl, rfl, Nat.le_refl _, fun _ _ _ => rfl⟩ (fun g e => by cases e)
    clear qT qG hw4
    refine start_ (n := 11) (S := fun w' => w'.heap[T]? = some (.cells XT 167 (0, 0)) ∧ w'.heap[wr.heap.size]? = some (.cells XF 61 (0, 0))) (ds := [10]) (ba 11 0) (by kernel_rfl) rfl rfl ⟨bT, bG⟩ (fun hHeld => ?_)
    refine pu 0 59 1 ?_
    refine pu 1 60 3 ?_
    refine pu 2 61 7 ?_
    refine take_ (i := 3) (N := some 62) (v := ?_) (a' := ?_) (ba 11 15) rfl rfl (by kernel_rfl) (fun _ _ _ h => h) (Or.inl ⟨by rfl, ?_⟩) hHeld ?_ ?_
    rotate_left
    ·intro w' s0
     have d0 := (blk_cell s0.1 1).trans (show _ = some (.map (some M) : Value) from by rw [hXT]; rfl)
     clear s0
     go_simp
     with_reducible rfl
    rotate_left
    ·simp only [Act.put, s1_, s2_, s3_, i64_w, i32_w]
     rfl
    refine pu 4 63 31 ?_
    refine take_ (i := 5) (N := some 64) (v := ?_) (a' := ?_) (ba 11 63) rfl rfl (by kernel_rfl) (fun _ _ _ h => h) (Or.inl ⟨by rfl, ?_⟩) hHeld ?_ ?_
    rotate_left
    ·intro w' s0
     have d0 := (blk_cell s0.2 0).trans (show _ = some (.string n : Value) from by rw [hXF]; rfl)
     clear s0
     go_simp
     with_reducible rfl
    rotate_left
    ·simp only [Act.put, s1_, s2_, s3_, i64_w, i32_w]
     rfl
    refine pu 6 65 127 ?_
    refine pu 7 66 255 ?_
    refine one_ (i := 8) (N := some 67) (ba 11 511) rfl rfl (by kernel_rfl) (by decide) (fun K hK => ?_)
    refine value_ (v := .slice (some ⟨w4.drew.heap.size, 0, none⟩) 1 1) (w1 := w4.drew.alloc (.cells #[.int .i64 (i : Int)] 3)) (by rfl) rfl ?_ ?_
    ·first | (go_simp; done) | (go_simp; rfl)
    refine hK.out _ _ ⟨blk_alloc_ bT, blk_alloc_ bG⟩ (fun hHeld => ?_)
    clear hK K
    refine norm_ (a' := ?_) ?_ ?_
    rotate_left
    ·show Act.put _ (some 67) _ = _
     simp only [Act.put, s1_, s2_, s3_]
     rfl
    refine one_ (i := 9) (N := some 68) (ba 11 1023) rfl rfl (by kernel_rfl) (by decide) (fun K hK => ?_)
    refine step_append_cells (w0 := w4.drew) B (by rfl) (.tmp 65) (.tmp 67) 26 3 (.int .i64 0) 1 8 rfl Tryz.underlying26 info3 rfl (by decide) (by decide) lv zs.length (zs.map (Value.int .i64)) [.int .i64 (i : Int)] rfl rfl rfl (fun u hu => by rw [List.mem_singleton.1 hu]; rfl) HQ.out.1.1 ⟨rfl, rfl, rfl, Nat.le_refl _, fun _ _ => rfl⟩ (by have := HP.out.2.2.2.1; rw [hz4] at this; exact this) (by have := HQ.out.2.1; omega) ?_
    intro v1 w5 ho5 _ hg5 hat5
    have hg4 : w4.grownBy w5 lv.ownBlock := ⟨hg5.os, hg5.tape, hg5.output, hg5.size, hg5.block⟩
    obtain ⟨w6, hup, hg6, hgr6⟩ := HQ.out.2.2 w5 v1 (zs ++ [(i : Int)]) hg4 (HQ.out.1.appended ho5 (by simp [Lit.wf, IntKind.min, IntKind.max, IntKind.bits, IntKind.signed]; omega)) (by have := HQ.out.2.1; simp; omega) hat5
    have nt : ∀ g, lv.ownBlock = some g → ∀ cs q, w4.drew.heap[g]? = some (.cells cs q (0, 0)) → q ∉ DE := (fun g e cs q hc => by obtain ⟨c3, hc3⟩ := own_typed HQ.out.1.1 g e; have hc4 := hc.symm.trans hc3; cases hc4; decide)
    have nt2 : ∀ q : Nat, q ≠ 3 → ∀ g, lv.ownBlock = some g → ∀ cs, w4.drew.heap[g]? ≠ some (.cells cs q (0, 0)) := fun q hq g e cs hc => by obtain ⟨c3, hc3⟩ := own_typed HQ.out.1.1 g e; have hc4 := hc.symm.trans hc3; cases hc4; exact hq rfl
    have bT5 := blk_kept_ hg5 (nt2 167 (by decide)) bT
    have bG5 := blk_kept_ hg5 (nt2 61 (by decide)) bG
    have F5 := F4.kept hg5 nt
    have hz5 : w3.heap.size ≤ w5.heap.size := by rw [hz4]; exact hg5.size
    have B5 : Below w.heap.size w w5 := pw_below_grown B4 _ B4.size hg5 (fun k e => Nat.le_trans hB (own_base HQ.out.1.1 k e))
    have hm5 : ∃ es cl, w5.heap[M]? = some (.map es cl) := by
     obtain ⟨es, cl, hm⟩ := HP.out.2.1.map
     rw [← h4] at hm
     exact ⟨es, cl, (hg5.block M (blk_lt hm) (fun e => by obtain ⟨c3, hc3⟩ := own_typed HQ.out.1.1 M e.symm; have hc4 := hm.symm.trans hc3; cases hc4)).trans hm⟩
    clear nt nt2 hg5 hat5 ho5 bT bG B4 F4 h4 hg4
    refine hK.out _ _ ⟨bT5, bG5⟩ (fun hHeld => ?_)
    clear hK K
    refine norm_ (a' := ?_) ?_ ?_
    rotate_left
    ·show Act.put _ (some 68) _ = _
     simp only [Act.put, s1_, s2_, s3_]
     rfl
    have hM : ∀ g, some M = some g → ∀ cs q, w5.heap[g]? ≠ some (.cells cs q (0, 0)) := fun g e cs q hc => by cases e; obtain ⟨es, cl, hm⟩ := hm5; have hc4 := hm.symm.trans hc; cases hc4
    have bT6 := blk_kept_ hgr6 (fun g e cs => hM g e cs 167) bT5
    have F6 := F5.kept hgr6 (fun g e cs q hc => absurd hc (hM g e cs q))
    have B6 : Below w.heap.size w w6 := pw_below_grown B5 _ B5.size hgr6 (fun k e => by cases e; exact hA.out.2.2.2.2.2.1)
    have z6 : B ≤ w6.heap.size := by have := HP.out.2.2.2.1; have := hgr6.size; have := hz5; omega
    have HE := Aside0.mk (And.intro bT6 (And.intro F6 (And.intro B6 (And.intro z6 hg6))))
    refine last_ (i := 10) (N := none) (ba 11 2047) rfl rfl (by kernel_rfl) (by decide) (fun K hK => ?_)
    refine skip_ (w1 := w6) (by rfl) rfl ?_ ?_
    ·first | (go_simp; done) | (go_simp; rw [hup]; done) | (go_simp; rw [hup]; rfl)
    refine hK.out _ _ ?_
    clear hK K hup hgr6 hM bT6 F6 B6 z6 hg6 bT5 bG5 F5 B5 hm5 hHeld
    refine done_ (by kernel_rfl) ?_
    rw [hXT] at HE
    clear hXT hXF
    go_wp2
    go_roundg (ds.length - (i + 1))
    case measure => have := HP.out.2.2.2.2.2; omega
    case rel => exact ⟨i + 1, by go_num, ⟨⟨by have := HP.out.2.2.2.2.2; omega, HE.out.1, HE.out.2.1, ⟨B, hB, HE.out.2.2.2.1, HE.out.2.2.2.2⟩, HE.out.2.2.1⟩⟩⟩
   | false =>
    go_upto_region 14 with fail
    refine wp_at ?_
    intro w4 hw4
    rw [← hw4] at qT qG HQ
    have bT : w4.drew.heap[T]? = some (.cells XT 167 (0, 0)) := qT
    have bG : w4.drew.heap[wr.heap.size]? = some (.cells XF 61 (0, 0)) := qG
    have hz4 : w3.heap.size = w4.heap.size := by rw [hw4]; rfl
    have h4 : ∀ k : Nat, w4.drew.heap[k]? = w3.heap[k]? := fun k => by rw [hw4]; rfl
    have B4 : Below w.heap.size w w4.drew := by rw [hw4]; exact b3_ (b3_ HP.out.1)
    have F4 : FRow w4.drew ok F ds (i + 1) := by rw [hw4]; exact HP.out.2.2.1.kept (row := none) ⟨rfl, rfl, rfl, Nat.le_refl _, fun _ _ _ => rfl⟩ (fun g e => by cases e)
    clear qT qG hw4
    refine start_ (n := 9) (S := fun w' => w'.heap[T]? = some (.cells XT 167 (0, 0)) ∧ w'.heap[wr.heap.size]? = some (.cells XF 61 (0, 0))) (ds := [8]) (ba 9 0) (by kernel_rfl) rfl rfl ⟨bT, bG⟩ (fun hHeld => ?_)
    refine pu 0 69 1 ?_
    refine pu 1 70 3 ?_
    refine pu 2 71 7 ?_
    refine take_ (i := 3) (N := some 72) (v := ?_) (a' := ?_) (ba 9 15) rfl rfl (by kernel_rfl) (fun _ _ _ h => h) (Or.inl ⟨by rfl, ?_⟩) hHeld ?_ ?_
    rotate_left
    ·intro w' s0
     have d0 := (blk_cell s0.1 1).trans (show _ = some (.map (some M) : Value) from by rw [hXT]; rfl)
     clear s0
     go_simp
     with_reducible rfl
    rotate_left
    ·simp only [Act.put, s1_, s2_, s3_, i64_w, i32_w]
     rfl
    refine pu 4 73 31 ?_
    refine take_ (i := 5) (N := some 74) (v := ?_) (a' := ?_) (ba 9 63) rfl rfl (by kernel_rfl) (fun _ _ _ h => h) (Or.inl ⟨by rfl, ?_⟩) hHeld ?_ ?_
    rotate_left
    ·intro w' s0
     have d0 := (blk_cell s0.2 0).trans (show _ = some (.string n : Value) from by rw [hXF]; rfl)
     clear s0
     go_simp
     with_reducible rfl
    rotate_left
    ·simp only [Act.put, s1_, s2_, s3_, i64_w, i32_w]
     rfl
    refine pu 6 75 127 ?_
    refine one_ (i := 7) (N := some 76) (ba 9 255) rfl rfl (by kernel_rfl) (by decide) (fun K hK => ?_)
    refine value_ (v := .slice (some ⟨w4.heap.size, 0, none⟩) 1 1) (w1 := w4.drew.alloc (.cells #[.int .i64 (i : Int)] 3)) (by rfl) rfl ?_ ?_
    ·first | (go_simp; done) | (go_simp; rfl)
    obtain ⟨w5, hw5⟩ : ∃ w5, w5 = w4.drew.alloc (.cells #[.int .i64 (i : Int)] 3) := ⟨_, rfl⟩
    have hg5 : w4.drew.grownBy w5 none := by rw [hw5]; exact World.grownBy_alloc _ _ _
    have nn : ∀ (q : Nat) (g : Nat), (none : Option Nat) = some g → ∀ cs, w4.drew.heap[g]? ≠ some (.cells cs q (0, 0)) := fun q g e => by cases e
    have bT5 := blk_kept_ hg5 (nn 167) bT
    have bG5 := blk_kept_ hg5 (nn 61) bG
    have F5 := F4.kept hg5 (fun g e => by cases e)
    have hz5 : w3.heap.size ≤ w5.heap.size := by rw [hz4]; exact hg5.size
    have B5 : Below w.heap.size w w5 := by rw [hw5]; exact b1_ B4 _
    have hg4 : w4.grownBy w5 lv.ownBlock := ⟨hg5.os, hg5.tape, hg5.output, hg5.size, fun k hl _ => hg5.block k hl (by simp)⟩
    have ho5 : w5.ownsInts B 3 .i64 (.slice (some ⟨w4.heap.size, 0, none⟩) 1 1) [(i : Int)] := by
     refine ⟨⟨rfl, .inr ⟨w4.heap.size, 1, #[.int .i64 (i : Int)], rfl, ?_, ?_, Nat.le_refl _, by unfold maxLen; omega, rfl, rfl⟩⟩, fun z hz => ?_⟩
     ·have := HP.out.2.2.2.1; rw [hz4] at this; exact this
     ·rw [hw5]; exact blk_new _ _
     ·rw [List.mem_singleton.1 hz]; exact Go.WalkArith.wf_i64 ⟨by omega, by omega⟩
    obtain ⟨w6, hup, hg6, hgr6⟩ := HQ.out.2.2 w5 _ [(i : Int)] hg4 ho5 (by simp) (.inr ⟨_, rfl, Nat.le_refl _⟩)
    have hm5 : ∃ es cl, w5.heap[M]? = some (.map es cl) := by
     obtain ⟨es, cl, hm⟩ := HP.out.2.1.map
     rw [← h4] at hm
     exact ⟨es, cl, (hg5.block M (blk_lt hm) (by simp)).trans hm⟩
    rw [← hw5]
    have HW5 := Aside0.mk hw5
    clear hw5 hg5 nn bT bG B4 F4 hg4 ho5 h4
    refine hK.out _ _ ⟨bT5, bG5⟩ (fun hHeld => ?_)
    clear hK K
    refine norm_ (a' := ?_) ?_ ?_
    rotate_left
    ·show Act.put _ (some 76) _ = _
     simp only [Act.put, s1_, s2_, s3_]
     rfl
    have hM : ∀ g, some M = some g → ∀ cs q, w5.heap[g]? ≠ some (.cells cs q (0, 0)) := fun g e cs q hc => by cases e; obtain ⟨es, cl, hm⟩ := hm5; have hc4 := hm.symm.trans hc; cases hc4
    have bT6 := blk_kept_ hgr6 (fun g e cs => hM g e cs 167) bT5
    have F6 := F5.kept hgr6 (fun g e cs q hc => absurd hc (hM g e cs q))
    have B6 : Below w.heap.size w w6 := pw_below_grown B5 _ B5.size hgr6 (fun k e => by cases e; exact hA.out.2.2.2.2.2.1)
    have z6 : B ≤ w6.heap.size := by have := HP.out.2.2.2.1; have := hgr6.size; have := hz5; omega
    have HE := Aside0.mk (And.intro bT6 (And.intro F6 (And.intro B6 (And.intro z6 hg6))))
    refine last_ (i := 8) (N := none) (ba 9 511) rfl rfl (by kernel_rfl) (by decide) (fun K hK => ?_)
    refine skip_ (w1 := w6) (by rfl) rfl ?_ ?_
    ·first | (go_simp; done) | (go_simp; rw [hup]; done) | (go_simp; rw [hup]; rfl)
    refine hK.out _ _ ?_
    clear hK K hup hgr6 hM bT6 F6 B6 z6 hg6 bT5 bG5 F5 B5 hm5 hHeld
    refine done_ (by kernel_rfl) ?_
    rw [hXT] at HE
    clear hXT hXF
    go_wp2
    go_roundg (ds.length - (i + 1))
    case measure => have := HP.out.2.2.2.2.2; omega
    case rel => exact ⟨i + 1, by go_num, ⟨⟨by have := HP.out.2.2.2.2.2; omega, HE.out.1, HE.out.2.1, ⟨B, hB, HE.out.2.2.2.1, HE.out.2.2.2.2⟩, HE.out.2.2.1⟩⟩⟩
  ·have hd : decide ((i : Int) < (ds.length : Int)) = false := by simpa using hi
   go_wp2
   go_ret
   obtain ⟨l1, l2, l3, l4, l5⟩ := hL.out
   obtain ⟨a1, a2, a3, a4, a5, a6, a7⟩ := hA.out
   have e : i = ds.length := by omega
   rw [e] at l3
   exact ⟨T, F, M, rfl, a4, l2, a5, l3, l5⟩
end Go.Proofs.YteebgnhhjlgnjaaGreatDoor.V
