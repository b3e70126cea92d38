/- How halves are compared. -/
import Derived.Test.YtmgpmmmoegjlbaaHL
import Derived.Deep.RegionWith
namespace Go.Proofs.Ytmgpmmmoegjlbaa.V
open Go.RowKit
set_option linter.unusedVariables false
theorem keepC {W W' : World} {p : Addr} {v : Value} (hb : Below W.heap.size W W') (hc : W.cell? p = some v) : W'.cell? p = some v := (hb.cell (World.block_lt_of_cell? W p hc)).trans hc
theorem wpAt {P : Program} {c : Code} {Q : Exit → Act → World → Prop} {a : Act} {W : World} (h : ∀ w0, w0 = W → Code.wp P c Q a w0) : Code.wp P c Q a W := h _ rfl
theorem boxes (W : World) (o p : Obj) : Below W.heap.size W ((W.alloc o).alloc p).drew := (((Below.refl _ _).alloc (Nat.le_refl _) _).alloc (by simp) _).drew
theorem box0 (W : World) (a : Value) (t : TypeId) (p : Obj) : ((W.alloc (.cells #[a] t)).alloc p).drew.cell? ⟨W.heap.size, 0, none⟩ = some a := by
  rw [World.cell?_drew]
  exact (World.cell?_alloc_old (w := W.alloc (.cells #[a] t)) (a := ⟨W.heap.size, 0, none⟩) (o := p) (by simp)).trans ((World.cell?_alloc_new W #[a] t 0).trans rfl)
theorem box1 (W : World) (a : Value) (t : TypeId) (o : Obj) : ((W.alloc o).alloc (.cells #[a] t)).drew.cell? ⟨W.heap.size + 1, 0, none⟩ = some a := by
  have h := World.cell?_alloc_new (W.alloc o) #[a] t 0
  rw [show (W.alloc o).heap.size = W.heap.size + 1 by simp] at h
  rw [World.cell?_drew, h]; rfl
set_option maxHeartbeats 1000000 in
theorem equal_ (s e m s' e' m' : Nat) (hs : s < 2) (he : e < 32) (hm : m < 1024) (hs' : s' < 2) (he' : e' < 32) (hm' : m' < 1024) (o : Ordering) (ho : FloatKind.f32.format.order (h32 s e m) (h32 s' e' m') = some o) (w : World) :
    Calls Try.prog 18 #[.agg #[.int .u16 (hb s e m)], .agg #[.int .u16 (hb s' e' m')]] w fun x w' => x = .returned (.bool (o == .eq)) ∧ Below w.heap.size w w' := by
  have hA := fun w => float32_ s e m w hs he hm
  have hB := fun w => float32_ s' e' m' w hs' he' hm'
  clear hs he hm hs' he' hm'
  generalize hb s e m = A at *
  generalize hb s' e' m' = B at *
  generalize h32 s e m = P at *
  generalize h32 s' e' m' = R at *
  go_enter Try.func18, Try.ntmps18
  go_wp2_with (fail)
  refine wpAt ?_
  intro w0 hw0
  have d0 : w0.drew.cell? ⟨w.heap.size, 0, none⟩ = some (.int .u16 A) := by rw [hw0]; exact box0 _ _ _ _
  have d1 : w0.drew.cell? ⟨w.heap.size + 1, 0, none⟩ = some (.int .u16 B) := by rw [hw0]; exact box1 _ _ _ _
  have hb0 : Below w.heap.size w w0.drew := by rw [hw0]; exact boxes _ _ _
  clear hw0
  have d0' : w0.cell? ⟨w.heap.size, 0, none⟩ = some (.int .u16 A) := d0
  have d1' : w0.cell? ⟨w.heap.size + 1, 0, none⟩ = some (.int .u16 B) := d1
  go_region_with (first | (go_at_call 13; (with_reducible refine (hA _).mono ?_); rintro x w1 ⟨rfl, hb1⟩; have e0 := keepC hb1 d0; have e1 := keepC hb1 d1; have HB1 := Lib.hid (hb0.trans (hb1.mono hb0.size)); clear hb1) | (go_at_call 13; (with_reducible refine (hB _).mono ?_); rintro x w2 ⟨rfl, hb2⟩; have HB2 := Lib.hid (HB1.out.trans (hb2.mono HB1.out.size)); clear hb2))
  all_goals go_wp2_with (fail)
  all_goals
    cases o
    all_goals
      go_ret
      exact ⟨by first | rfl | (simp; done), HB2.out⟩
set_option maxHeartbeats 1000000 in
theorem less_ (s e m s' e' m' : Nat) (hs : s < 2) (he : e < 32) (hm : m < 1024) (hs' : s' < 2) (he' : e' < 32) (hm' : m' < 1024) (o : Ordering) (ho : FloatKind.f32.format.order (h32 s e m) (h32 s' e' m') = some o) (w : World) :
    Calls Try.prog 19 #[.agg #[.int .u16 (hb s e m)], .agg #[.int .u16 (hb s' e' m')]] w fun x w' => x = .returned (.bool (o == .lt)) ∧ Below w.heap.size w w' := by
  have hA := fun w => float32_ s e m w hs he hm
  have hB := fun w => float32_ s' e' m' w hs' he' hm'
  clear hs he hm hs' he' hm'
  generalize hb s e m = A at *
  generalize hb s' e' m' = B at *
  generalize h32 s e m = P at *
  generalize h32 s' e' m' = R at *
  go_enter Try.func19, Try.ntmps19
  go_wp2_with (fail)
  refine wpAt ?_
  intro w0 hw0
  have d0 : w0.drew.cell? ⟨w.heap.size, 0, none⟩ = some (.int .u16 A) := by rw [hw0]; exact box0 _ _ _ _
  have d1 : w0.drew.cell? ⟨w.heap.size + 1, 0, none⟩ = some (.int .u16 B) := by rw [hw0]; exact box1 _ _ _ _
  have hb0 : Below w.heap.size w w0.drew := by rw [hw0]; exact boxes _ _ _
  clear hw0
  have d0' : w0.cell? ⟨w.heap.size, 0, none⟩ = some (.int .u16 A) := d0
  have d1' : w0.cell? ⟨w.heap.size + 1, 0, none⟩ = some (.int .u16 B) := d1
  go_region_with (first | (go_at_call 13; (with_reducible refine (hA _).mono ?_); rintro x w1 ⟨rfl, hb1⟩; have e0 := keepC hb1 d0; have e1 := keepC hb1 d1; have HB1 := Lib.hid (hb0.trans (hb1.mono hb0.size)); clear hb1) | (go_at_call 13; (with_reducible refine (hB _).mono ?_); rintro x w2 ⟨rfl, hb2⟩; have HB2 := Lib.hid (HB1.out.trans (hb2.mono HB1.out.size)); clear hb2))
  all_goals go_wp2_with (fail)
  all_goals
    cases o
    all_goals
      go_ret
      exact ⟨by first | rfl | (simp; done), HB2.out⟩
set_option maxHeartbeats 1000000 in
theorem lessEq_ (s e m s' e' m' : Nat) (hs : s < 2) (he : e < 32) (hm : m < 1024) (hs' : s' < 2) (he' : e' < 32) (hm' : m' < 1024) (o : Ordering) (ho : FloatKind.f32.format.order (h32 s e m) (h32 s' e' m') = some o) (w : World) :
    Calls Try.prog 20 #[.agg #[.int .u16 (hb s e m)], .agg #[.int .u16 (hb s' e' m')]] w fun x w' => x = .returned (.bool (o == .lt || o == .eq)) ∧ Below w.heap.size w w' := by
  have hA := fun w => float32_ s e m w hs he hm
  have hB := fun w => float32_ s' e' m' w hs' he' hm'
  clear hs he hm hs' he' hm'
  generalize hb s e m = A at *
  generalize hb s' e' m' = B at *
  generalize h32 s e m = P at *
  generalize h32 s' e' m' = R at *
  go_enter Try.func20, Try.ntmps20
  go_wp2_with (fail)
  refine wpAt ?_
  intro w0 hw0
  have d0 : w0.drew.cell? ⟨w.heap.size, 0, none⟩ = some (.int .u16 A) := by rw [hw0]; exact box0 _ _ _ _
  have d1 : w0.drew.cell? ⟨w.heap.size + 1, 0, none⟩ = some (.int .u16 B) := by rw [hw0]; exact box1 _ _ _ _
  have hb0 : Below w.heap.size w w0.drew := by rw [hw0]; exact boxes _ _ _
  clear hw0
  have d0' : w0.cell? ⟨w.heap.size, 0, none⟩ = some (.int .u16 A) := d0
  have d1' : w0.cell? ⟨w.heap.size + 1, 0, none⟩ = some (.int .u16 B) := d1
  go_region_with (first | (go_at_call 13; (with_reducible refine (hA _).mono ?_); rintro x w1 ⟨rfl, hb1⟩; have e0 := keepC hb1 d0; have e1 := keepC hb1 d1; have HB1 := Lib.hid (hb0.trans (hb1.mono hb0.size)); clear hb1) | (go_at_call 13; (with_reducible refine (hB _).mono ?_); rintro x w2 ⟨rfl, hb2⟩; have HB2 := Lib.hid (HB1.out.trans (hb2.mono HB1.out.size)); clear hb2))
  all_goals go_wp2_with (fail)
  all_goals
    cases o
    all_goals
      go_ret
      exact ⟨by first | rfl | (simp; done), HB2.out⟩
set_option maxHeartbeats 1000000 in
theorem greater_ (s e m s' e' m' : Nat) (hs : s < 2) (he : e < 32) (hm : m < 1024) (hs' : s' < 2) (he' : e' < 32) (hm' : m' < 1024) (o : Ordering) (ho : FloatKind.f32.format.order (h32 s e m) (h32 s' e' m') = some o) (w : World) :
    Calls Try.prog 21 #[.agg #[.int .u16 (hb s e m)], .agg #[.int .u16 (hb s' e' m')]] w fun x w' => x = .returned (.bool (o == .gt)) ∧ Below w.heap.size w w' := by
  have hA := fun w => float32_ s e m w hs he hm
  have hB := fun w => float32_ s' e' m' w hs' he' hm'
  clear hs he hm hs' he' hm'
  generalize hb s e m = A at *
  generalize hb s' e' m' = B at *
  generalize h32 s e m = P at *
  generalize h32 s' e' m' = R at *
  go_enter Try.func21, Try.ntmps21
  go_wp2_with (fail)
  refine wpAt ?_
  intro w0 hw0
  have d0 : w0.drew.cell? ⟨w.heap.size, 0, none⟩ = some (.int .u16 A) := by rw [hw0]; exact box0 _ _ _ _
  have d1 : w0.drew.cell? ⟨w.heap.size + 1, 0, none⟩ = some (.int .u16 B) := by rw [hw0]; exact box1 _ _ _ _
  have hb0 : Below w.heap.size w w0.drew := by rw [hw0]; exact boxes _ _ _
  clear hw0
  have d0' : w0.cell? ⟨w.heap.size, 0, none⟩ = some (.int .u16 A) := d0
  have d1' : w0.cell? ⟨w.heap.size + 1, 0, none⟩ = some (.int .u16 B) := d1
  go_region_with (first | (go_at_call 13; (with_reducible refine (hA _).mono ?_); rintro x w1 ⟨rfl, hb1⟩; have e0 := keepC hb1 d0; have e1 := keepC hb1 d1; have HB1 := Lib.hid (hb0.trans (hb1.mono hb0.size)); clear hb1) | (go_at_call 13; (with_reducible refine (hB _).mono ?_); rintro x w2 ⟨rfl, hb2⟩; have HB2 := Lib.hid (HB1.out.trans (hb2.mono HB1.out.size)); clear hb2))
  all_goals go_wp2_with (fail)
  all_goals
    cases o
    all_goals
      go_ret
      exact ⟨by first | rfl | (simp; done), HB2.out⟩
set_option maxHeartbeats 1000000 in
theorem greaterEq_ (s e m s' e' m' : Nat) (hs : s < 2) (he : e < 32) (hm : m < 1024) (hs' : s' < 2) (he' : e' < 32) (hm' : m' < 1024) (o : Ordering) (ho : FloatKind.f32.format.order (h32 s e m) (h32 s' e' m') = some o) (w : World) :
    Calls Try.prog 22 #[.agg #[.int .u16 (hb s e m)], .agg #[.int .u16 (hb s' e' m')]] w fun x w' => x = .returned (.bool (o == .gt || o == .eq)) ∧ Below w.heap.size w w' := by
  have hA := fun w => float32_ s e m w hs he hm
  have hB := fun w => float32_ s' e' m' w hs' he' hm'
  clear hs he hm hs' he' hm'
  generalize hb s e m = A at *
  generalize hb s' e' m' = B at *
  generalize h32 s e m = P at *
  generalize h32 s' e' m' = R at *
  go_enter Try.func22, Try.ntmps22
  go_wp2_with (fail)
  refine wpAt ?_
  intro w0 hw0
  have d0 : w0.drew.cell? ⟨w.heap.size, 0, none⟩ = some (.int .u16 A) := by rw [hw0]; exact box0 _ _ _ _
  have d1 : w0.drew.cell? ⟨w.heap.size + 1, 0, none⟩ = some (.int .u16 B) := by rw [hw0]; exact box1 _ _ _ _
  have hb0 : Below w.heap.size w w0.drew := by rw [hw0]; exact boxes _ _ _
  clear hw0
  have d0' : w0.cell? ⟨w.heap.size, 0, none⟩ = some (.int .u16 A) := d0
  have d1' : w0.cell? ⟨w.heap.size + 1, 0, none⟩ = some (.int .u16 B) := d1
  go_region_with (first | (go_at_call 13; (with_reducible refine (hA _).mono ?_); rintro x w1 ⟨rfl, hb1⟩; have e0 := keepC hb1 d0; have e1 := keepC hb1 d1; have HB1 := Lib.hid (hb0.trans (hb1.mono hb0.size)); clear hb1) | (go_at_call 13; (with_reducible refine (hB _).mono ?_); rintro x w2 ⟨rfl, hb2⟩; have HB2 := Lib.hid (HB1.out.trans (hb2.mono HB1.out.size)); clear hb2))
  all_goals go_wp2_with (fail)
  all_goals
    cases o
    all_goals
      go_ret
      exact ⟨by first | rfl | (simp; done), HB2.out⟩
end Go.Proofs.Ytmgpmmmoegjlbaa.V
