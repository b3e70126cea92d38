/- What arrow's makers of types with one field, and of run ends, answer. -/
import Derived.Test.YteebgnhhjlgnjaaGreatDoorD0
import Derived.Test.YteebgnhhjlgnjaaGreatDoorG0
namespace Go.Proofs.YteebgnhhjlgnjaaGreatDoor.V
open Go.RowKit Go.Proofs.YteebgnhhjlgnjaaGreatDoorW.PrintWords Go.Proofs.YteebgnhhjlgnjaaGreatDoorW.PrintLast Go.Proofs.YteebgnhhjlgnjaaGreatDoorW.PrintMore
set_option maxHeartbeats 40000000
set_option maxRecDepth 100000
set_option linter.unusedVariables false
set_option linter.unusedSimpArgs false
def fcs (n : ByteArray) (x : Value) (b : Bool) : List Value := [.string n, x, .bool b, .slice none 0 0, .slice none 0 0]
def NewAt (w : World) (cs : List Value) (t : Nat) (e : Ending) (w' : World) : Prop := ∃ g, e = .returned (.pointer (some ⟨g, 0, none⟩)) ∧ w.heap.size ≤ g ∧ w'.heap[g]? = some (.cells cs.toArray t (0, 0)) ∧ Below w.heap.size w w'
theorem of89 (n : ByteArray) (q : Nat) (a : Value) (b : Bool) (w : World) : Calls Tryz.prog 89 #[.agg (fcs n (.iface q a) b).toArray] w (NewAt w (fcs n (.iface q a) b) 157) := by
 unfold fcs
 go_enter Tryz.func89, Tryz.ntmps89
 go_wp2
 go_ret
 exact ⟨_, rfl, by simp, blk_new_at (by simp), bl⟩
theorem of90 (n : ByteArray) (q : Nat) (a : Value) (b : Bool) (w : World) : Calls Tryz.prog 90 #[.agg (fcs n (.iface q a) b).toArray] w (NewAt w (fcs n (.iface q a) b) 265) := by
 unfold fcs
 go_enter Tryz.func90, Tryz.ntmps90
 go_wp2
 go_ret
 exact ⟨_, rfl, by simp, blk_new_at (by simp), bl⟩
theorem of91 (n : ByteArray) (q : Nat) (a : Value) (b : Bool) (w : World) : Calls Tryz.prog 91 #[.agg (fcs n (.iface q a) b).toArray] w (NewAt w (fcs n (.iface q a) b) 181) := by
 unfold fcs
 go_enter Tryz.func91, Tryz.ntmps91
 go_wp2
 go_ret
 exact ⟨_, rfl, by simp, blk_new_at (by simp), bl⟩
theorem of92 (n : ByteArray) (q : Nat) (a : Value) (b : Bool) (w : World) : Calls Tryz.prog 92 #[.agg (fcs n (.iface q a) b).toArray] w (NewAt w (fcs n (.iface q a) b) 266) := by
 unfold fcs
 go_enter Tryz.func92, Tryz.ntmps92
 go_wp2
 go_ret
 exact ⟨_, rfl, by simp, blk_new_at (by simp), bl⟩
theorem of93 (m : Int) (hm : 1 ≤ m) (n : ByteArray) (q : Nat) (a : Value) (b : Bool) (w : World) : Calls Tryz.prog 93 #[.int .i32 m, .agg (fcs n (.iface q a) b).toArray] w (NewAt w (.int .i32 m :: fcs n (.iface q a) b) 160) := by
 unfold fcs
 go_enter Tryz.func93, Tryz.ntmps93
 go_wp2
 go_ret
 exact ⟨_, rfl, by simp, blk_new_at (by simp), bl⟩
theorem of88 (q r : Nat) (x y : Value) (w : World) : Calls Tryz.prog 88 #[.iface q x, .iface r y] w (NewAt w [.iface q x, .iface r y, .bool true] 179) := by
 go_enter Tryz.func88, Tryz.ntmps88
 go_wp2
 go_ret
 exact ⟨_, rfl, by simp, blk_new_at (by simp), bl⟩
theorem meta77 (w : World) : Calls Tryz.prog 77 #[.slice none 0 0, .slice none 0 0] w fun e w' => e = .returned (.agg #[.slice none 0 0, .slice none 0 0]) ∧ Below w.heap.size w w' := by
 go_enter Tryz.func77, Tryz.ntmps77
 go_wp2
 refine bodyPost_ret (v := .agg #[.slice none 0 0, .slice none 0 0]) (by simp [results, Tryz.results77, go_sem]) rfl ⟨rfl, ?_⟩
 repeat (first | exact Below.refl _ _ | apply b1_ | apply b2_ | apply b3_)
theorem meta43 (A : Option Addr) (c : Nat) (w : World) : Calls Tryz.prog 43 #[.slice A 0 c] w fun e w' => e = .returned (.agg #[.slice none 0 0, .slice none 0 0]) ∧ Below w.heap.size w w' := by
 go_enter Tryz.func43, Tryz.ntmps43
 go_wp2
 refine wp_loop_rounds 1 ?_
 rw [rounds_succ]
 go_wp2_with (go_at_call 77; fail)
 refine calls_at ?_
 intro w0 hw0
 have B0 : w0.heap[w.heap.size]? = some (.cells #[.slice none 0 0, .slice none 0 0] 59 (0, 0)) := by rw [hw0]; exact blk_new_at rfl
 have b0 : Below w.heap.size w w0 := by rw [hw0]; exact (Below.refl _ _).alloc (Nat.le_refl _) _
 clear hw0
 refine (meta77 w0).mono ?_
 rintro e w1 ⟨rfl, hb⟩
 have B1 := blk_below B0 hb
 have b1 := below_step b0 hb
 clear B0 b0 hb
 have H := Aside0.mk (And.intro B1 b1)
 have c0 := (blk_cell B1 0).trans (show _ = some (Value.slice none 0 0) from rfl)
 have c1 := (blk_cell B1 1).trans (show _ = some (Value.slice none 0 0) from rfl)
 have f0 := blk_frozen B1 0
 have f1 := blk_frozen B1 1
 clear B1 b1
 go_wp2
 refine bodyPost_ret (v := .agg #[.slice none 0 0, .slice none 0 0]) (by simp [results, Tryz.results43, go_sem, c0, c1]) rfl ⟨rfl, ?_⟩
 exact (H.out.2.setCell (p := ⟨w.heap.size, 0, none⟩) (Nat.le_refl _) _).setCell (p := ⟨w.heap.size, 1, none⟩) (Nat.le_refl _) _
theorem clone97 (w : World) : Calls Tryz.prog 97 #[.agg #[.slice none 0 0, .slice none 0 0]] w fun e w' => e = .returned (.agg #[.slice none 0 0, .slice none 0 0]) ∧ Below w.heap.size w w' := by
 go_enter Tryz.func97, Tryz.ntmps97
 go_wp2
 refine bodyPost_ret (v := .agg #[.slice none 0 0, .slice none 0 0]) (by simp [results, Tryz.results97, go_sem]) rfl ⟨rfl, ?_⟩
 repeat (first | exact Below.refl _ _ | apply b1_ | apply b2_ | apply b3_)
theorem field26 (n : ByteArray) (b : Bool) (k wd : Int) (s : Bool) (u p q : Int) (z : ByteArray) (fl : Bool) (A8 A9 A12 : Option Addr) (n8 c8 n9 c9 c12 : Nat) (d : DT) (w : World)
 (h34 : ∀ W, Below w.heap.size w W → Calls Tryz.prog 34 #[.agg #[.int .i64 k, .int .i64 wd, .bool s, .int .i64 u, .int .i64 p, .int .i64 q, .string z, .bool fl, .slice A8 n8 c8, .slice A9 n9 c9]] W (Made W d)) :
 Calls Tryz.prog 26 #[.agg #[.string n, .bool b, .int .i64 k, .int .i64 wd, .bool s, .int .i64 u, .int .i64 p, .int .i64 q, .string z, .bool fl, .slice A8 n8 c8, .slice A9 n9 c9, .slice A12 0 c12]] w fun e w' => ∃ cs, e = .returned (.agg (List.toArray cs)) ∧ DFIn w' (fun k => w.heap.size ≤ k) (.mk n d b) cs ∧ Below w.heap.size w w' := by
 go_enter Tryz.func26, Tryz.ntmps26
 go_upto_region 1 with fail
 refine wp_at ?_
 intro w1 hw1
 obtain ⟨X, hX⟩ : ∃ X : Array Value, X = #[.string n, .bool b, .int .i64 k, .int .i64 wd, .bool s, .int .i64 u, .int .i64 p, .int .i64 q, .string z, .bool fl, .slice A8 n8 c8, .slice A9 n9 c9, .slice A12 0 c12] := ⟨_, rfl⟩
 have b1 : w1.drew.heap[w.heap.size]? = some (.cells X 30 (0, 0)) := by rw [hw1, hX]; exact blk_drew_ (blk_alloc_ (blk_new_at rfl))
 have r1 : w1.drew.heap[w.heap.size + 1]? = some (.cells #[.string ⟨#[]⟩, .nilIface, .bool false, .slice none 0 0, .slice none 0 0] 61 (0, 0)) := by rw [hw1]; exact blk_drew_ (blk_new_at (by simp))
 have B1 : Below w.heap.size w w1.drew := by rw [hw1]; exact ((b1_ (b1_ (Below.refl _ _) _) _)).drew
 have s1 : w.heap.size + 2 ≤ w1.drew.heap.size := by rw [hw1]; simp
 clear hw1
 refine start_ (n := 12) (S := fun w' => w'.heap[w.heap.size]? = some (.cells X 30 (0, 0))) (ds := [11]) (ba 12 0) (by kernel_rfl) rfl rfl b1 (fun hHeld => ?_)
 refine pu 0 3 1 ?_
 refine take_ (i := 1) (N := some 4) (v := ?_) (a' := ?_) (ba 12 3) rfl rfl (by kernel_rfl) (fun _ _ _ h => h) (Or.inl ⟨by rfl, ?_⟩) hHeld ?_ ?_
 rotate_left
 ·intro w' s0
  have d0 := (blk_cell s0 0).trans (show _ = some (.string n : Value) from by rw [hX]; rfl)
  clear s0
  go_simp
  with_reducible rfl
 rotate_left
 ·simp only [Act.put, s1_, s2_, s3_, i64_w, i32_w]
  rfl
 refine pu 2 5 7 ?_
 refine take_ (i := 3) (N := some 6) (v := ?_) (a' := ?_) (ba 12 15) rfl rfl (by kernel_rfl) (fun _ _ _ h => h) (Or.inl ⟨by rfl, ?_⟩) hHeld ?_ ?_
 rotate_left
 ·intro w' s0
  have d2 := (blk_cell s0 2).trans (show _ = some (.int .i64 k : Value) from by rw [hX]; rfl)
  have d3 := (blk_cell s0 3).trans (show _ = some (.int .i64 wd : Value) from by rw [hX]; rfl)
  have d4 := (blk_cell s0 4).trans (show _ = some (.bool s : Value) from by rw [hX]; rfl)
  have d5 := (blk_cell s0 5).trans (show _ = some (.int .i64 u : Value) from by rw [hX]; rfl)
  have d6 := (blk_cell s0 6).trans (show _ = some (.int .i64 p : Value) from by rw [hX]; rfl)
  have d7 := (blk_cell s0 7).trans (show _ = some (.int .i64 q : Value) from by rw [hX]; rfl)
  have d8 := (blk_cell s0 8).trans (show _ = some (.string z : Value) from by rw [hX]; rfl)
  have d9 := (blk_cell s0 9).trans (show _ = some (.bool fl : Value) from by rw [hX]; rfl)
  have d10 := (blk_cell s0 10).trans (show _ = some (.slice A8 n8 c8 : Value) from by rw [hX]; rfl)
  have d11 := (blk_cell s0 11).trans (show _ = some (.slice A9 n9 c9 : Value) from by rw [hX]; rfl)
  clear s0
  go_simp
  with_reducible rfl
 rotate_left
 ·simp only [Act.put, s1_, s2_, s3_, i64_w, i32_w]
  rfl
 refine pu 5 8 47 ?_
 refine take_ (i := 6) (N := some 9) (v := ?_) (a' := ?_) (ba 12 111) rfl rfl (by kernel_rfl) (fun _ _ _ h => h) (Or.inl ⟨by rfl, ?_⟩) hHeld ?_ ?_
 rotate_left
 ·intro w' s0
  have d1 := (blk_cell s0 1).trans (show _ = some (.bool b : Value) from by rw [hX]; rfl)
  clear s0
  go_simp
  with_reducible rfl
 rotate_left
 ·simp only [Act.put, s1_, s2_, s3_, i64_w, i32_w]
  rfl
 refine pu 7 10 239 ?_
 refine take_ (i := 8) (N := some 11) (v := ?_) (a' := ?_) (ba 12 495) rfl rfl (by kernel_rfl) (fun _ _ _ h => h) (Or.inl ⟨by rfl, ?_⟩) hHeld ?_ ?_
 rotate_left
 ·intro w' s0
  have d12 := (blk_cell s0 12).trans (show _ = some (.slice A12 0 c12 : Value) from by rw [hX]; rfl)
  clear s0
  go_simp
  with_reducible rfl
 rotate_left
 ·simp only [Act.put, s1_, s2_, s3_, i64_w, i32_w]
  rfl
 refine one_ (i := 4) (N := some 7) (ba 12 511) rfl rfl (by kernel_rfl) (by decide) (fun K hK => ?_)
 refine goes_ Tryz.func34 (by kernel_rfl) rfl #[(.agg #[.int .i64 k, .int .i64 wd, .bool s, .int .i64 u, .int .i64 p, .int .i64 q, .string z, .bool fl, .slice A8 n8 c8, .slice A9 n9 c9])] (by rfl) rfl rfl (by (try simp only [List.map_toArray, List.map_cons, List.map_nil]); rfl) ?_
 refine (h34 _ B1).mono ?_
 rintro e w2 ⟨v, rfl, hd, hb⟩
 refine ⟨_, rfl, ?_⟩
 clear h34
 have b2 := blk_below b1 hb
 have r2 := blk_below r1 hb
 have B2 := below_step B1 hb
 have hd2 := hd.mono (fun k hk => Nat.le_trans s1 hk)
 obtain ⟨tq, ta, hv⟩ := hd2.form
 subst hv
 clear b1 r1 B1 hd hb
 refine hK.out _ _ b2 (fun hHeld => ?_)
 clear hK K
 refine norm_ (a' := ?_) ?_ ?_
 rotate_left
 ·show Act.put _ (some 7) _ = _
  simp only [Act.put, s1_, s2_, s3_]
  rfl
 refine one_ (i := 9) (N := some 12) (ba 12 1023) rfl rfl (by kernel_rfl) (by decide) (fun K hK => ?_)
 refine goes_ Tryz.func43 (by kernel_rfl) rfl #[(.slice A12 0 c12)] (by rfl) rfl rfl (by (try simp only [List.map_toArray, List.map_cons, List.map_nil]); rfl) ?_
 refine (meta43 _ _ w2).mono ?_
 rintro e w3 ⟨rfl, hb⟩
 refine ⟨_, rfl, ?_⟩
 have b3 := blk_below b2 hb
 have r3 := blk_below r2 hb
 have B3 := below_step B2 hb
 have hd3 := hd2.below hb
 clear b2 r2 B2 hd2 hb
 refine hK.out _ _ b3 (fun hHeld => ?_)
 clear hK K
 refine norm_ (a' := ?_) ?_ ?_
 rotate_left
 ·show Act.put _ (some 12) _ = _
  simp only [Act.put, s1_, s2_, s3_]
  rfl
 refine pu 10 13 2047 ?_
 have x0 := (blk_cell r3 0).trans (show _ = some (.string ⟨#[]⟩ : Value) from rfl)
 have f0 := blk_frozen r3 0
 have x1 := (blk_cell r3 1).trans (show _ = some (.nilIface : Value) from rfl)
 have f1 := blk_frozen r3 1
 have x2 := (blk_cell r3 2).trans (show _ = some (.bool false : Value) from rfl)
 have f2 := blk_frozen r3 2
 have x3 := (blk_cell r3 3).trans (show _ = some (.slice none 0 0 : Value) from rfl)
 have f3 := blk_frozen r3 3
 have x4 := (blk_cell r3 4).trans (show _ = some (.slice none 0 0 : Value) from rfl)
 have f4 := blk_frozen r3 4
 obtain ⟨wF, hwF⟩ : ∃ wF, wF = (((((w3.setCell ⟨w.heap.size + 1, 0, none⟩ (.string n)).setCell ⟨w.heap.size + 1, 1, none⟩ (.iface tq (.pointer (some ta)))).setCell ⟨w.heap.size + 1, 2, none⟩ (.bool b)).setCell ⟨w.heap.size + 1, 3, none⟩ (.slice none 0 0)).setCell ⟨w.heap.size + 1, 4, none⟩ (.slice none 0 0)) := ⟨_, rfl⟩
 have BF : wF.heap[w.heap.size + 1]? = some (.cells #[.string n, .iface tq (.pointer (some ta)), .bool b, .slice none 0 0, .slice none 0 0] 61 (0, 0)) := by rw [hwF]; exact (blk_put_at (cs' := #[.string n, .iface tq (.pointer (some ta)), .bool b, .slice none 0 0, .slice none 0 0]) (blk_put_at (cs' := #[.string n, .iface tq (.pointer (some ta)), .bool b, .slice none 0 0, .slice none 0 0]) (blk_put_at (cs' := #[.string n, .iface tq (.pointer (some ta)), .bool b, .slice none 0 0, .slice none 0 0]) (blk_put_at (cs' := #[.string n, .iface tq (.pointer (some ta)), .bool false, .slice none 0 0, .slice none 0 0]) (blk_put_at (cs' := #[.string n, .nilIface, .bool false, .slice none 0 0, .slice none 0 0]) r3 rfl) rfl) rfl) rfl) rfl)
 have bF : Below w.heap.size w wF := by rw [hwF]; exact (((((B3.setCell (p := ⟨w.heap.size + 1, 0, none⟩) (Nat.le_succ _) _).setCell (p := ⟨w.heap.size + 1, 1, none⟩) (Nat.le_succ _) _).setCell (p := ⟨w.heap.size + 1, 2, none⟩) (Nat.le_succ _) _).setCell (p := ⟨w.heap.size + 1, 3, none⟩) (Nat.le_succ _) _).setCell (p := ⟨w.heap.size + 1, 4, none⟩) (Nat.le_succ _) _)
 have dF : DTIn wF (fun k => w.heap.size ≤ k) d (.iface tq (.pointer (some ta))) := by
  rw [hwF]
  refine hd3.step (fun k q cells hk hl hq hc => ⟨?_, by omega⟩)
  have hne : k ≠ w.heap.size + 1 := by omega
  exact blk_other_ hne (blk_other_ hne (blk_other_ hne (blk_other_ hne (blk_other_ hne (hc)))))
 have HF := Aside0.mk hwF
 clear hwF
 refine last_ (i := 11) (N := none) (ba 12 4095) rfl rfl (by kernel_rfl) (by decide) (fun K hK => ?_)
 refine skip_ (w1 := wF) (by rfl) rfl ?_ ?_
 ·go_simp
  rw [HF.out]
 refine hK.out _ _ ?_
 clear hK K
 refine done_ (by kernel_rfl) ?_
 have HE := Aside0.mk (And.intro BF (And.intro bF dF))
 have y0 := (blk_cell BF 0).trans (show _ = some (Value.string n) from rfl)
 have y1 := (blk_cell BF 1).trans (show _ = some (Value.iface tq (.pointer (some ta))) from rfl)
 have y2 := (blk_cell BF 2).trans (show _ = some (Value.bool b) from rfl)
 have y3 := (blk_cell BF 3).trans (show _ = some (Value.slice none 0 0) from rfl)
 have y4 := (blk_cell BF 4).trans (show _ = some (Value.slice none 0 0) from rfl)
 clear BF bF dF b3 r3 B3 hd3 x0 x1 x2 x3 x4 f0 f1 f2 f3 f4 HF
 go_wp2
 refine bodyPost_ret (v := .agg #[.string n, .iface tq (.pointer (some ta)), .bool b, .slice none 0 0, .slice none 0 0]) (by simp [results, Tryz.results26, go_sem, y0, y1, y2, y3, y4]) rfl ?_
 obtain ⟨BF, bF, dF⟩ := HE.out
 exact ⟨_, rfl, ⟨_, rfl, dF⟩, bF⟩
def MakesF (f : S30) (d : DF) : Prop := ∀ (w : World) (cs : List Value), k30.K w f cs → Calls Tryz.prog 26 #[.agg cs.toArray] w fun e w' => ∃ cs', e = .returned (.agg (List.toArray cs')) ∧ DFIn w' (fun k => w.heap.size ≤ k) d cs' ∧ Below w.heap.size w w'
theorem info61 : (Tryz.prog.info? 61).map (fun i => (i.zero, i.size, i.bytes)) = some (some (.agg #[.string ⟨#[]⟩, .nilIface, .bool false, .slice none 0 0, .slice none 0 0]), 5, 88) := by kernel_rfl
inductive All2 {α β : Type} (R : α → β → Prop) : List α → List β → Prop
 | nil : All2 R [] []
 | cons {a b l m} : R a b → All2 R l m → All2 R (a :: l) (b :: m)
theorem All2.length {α β : Type} {R : α → β → Prop} {l : List α} {m : List β} (h : All2 R l m) : l.length = m.length := by
 induction h with
 | nil => rfl
 | cons _ _ ih => simp [ih]
theorem All2.get {α β : Type} {R : α → β → Prop} {l : List α} {m : List β} (h : All2 R l m) : ∀ (i : Nat) (h1 : i < l.length) (h2 : i < m.length), R l[i] m[i] := by
 induction h with
 | nil => intro i h1; simp at h1
 | cons hab _ ih =>
  intro i h1 h2
  cases i with
  | zero => exact hab
  | succ i => exact ih i (by simpa using h1) (by simpa using h2)
theorem at30 {w : World} {A : Option Addr} {l : List S30} (h : Kd.C k30 w A l.length l) (i : Nat) (hi : i < l.length) : ∃ ad cs, A = some ad ∧ k30.K w l[i] cs ∧ ∀ j u, cs[j]? = some u → w.cell? (ad.add (i * 13 + j)) = some u := by
 obtain ⟨ad, c, e, _, hK, hc0⟩ := Kd.C_get h z30 i (by omega) (by omega)
 refine ⟨ad, c, e, ?_, hc0⟩
 rw [Int.toNat_natCast, List.getD_eq_getElem?_getD, List.getElem?_eq_getElem hi] at hK
 exact hK
theorem fields45 (l : List S30) (ds : List DF) (h : All2 MakesF l ds) (A : Option Addr) (c : Nat) (w : World) (hC : Kd.C k30 w A l.length l) (hl : l.length < 2 ^ 30) :
 Calls Tryz.prog 45 #[.slice A l.length c] w fun e w' => ∃ v, e = .returned v ∧ Kd.R kDF 61 w' w.heap.size (fun _ => True) v ds ∧ Below w.heap.size w w' := by
 have HH := Aside0.mk (And.intro h (And.intro hC h.length))
 clear h hC
 go_enter Tryz.func45, Tryz.ntmps45
 go_wp2
 go_loopg [3, 8] l.length (fun kq v3 v8 wr => ∃ i : Nat, v8 = .int .i64 (i : Int) ∧ Aside0 (i + kq = l.length ∧ Below w.heap.size w wr ∧ Kd.R kDF 61 wr w.heap.size (fun _ => True) v3 (ds.take i)))
 case atStart => exact ⟨0, rfl, ⟨⟨by omega, Below.refl _ _, Kd.R_nil _ _ _ _ _⟩⟩⟩
 case round =>
  obtain ⟨i, rfl, hA⟩ := hrel
  by_cases hi : i < l.length
  ·have hd : decide ((i : Int) < (l.length : Int)) = true := by simpa using hi
   obtain ⟨h, hC, hlen⟩ := HH.out
   obtain ⟨h1, h2, h3⟩ := hA.out
   obtain ⟨ad, cs, rfl, hK, hcell⟩ := at30 (Kd.C_below hC h2) i hi
   obtain ⟨A10, c10, A11, c11, A12, c12, hcs, hrest⟩ := k30_open hK
   obtain ⟨x0, x1, x2, x3, x4, x5, x6, x7, x8, x9, x10, x11, x12⟩ := fld13 hcell hcs
   have HK := Aside0.mk (And.intro hK (And.intro hcs h2.size))
   clear h hC h1 h2 h3 hlen hrest hK hcs hcell
   have e1 : IntKind.i64.wrap ((i : Int) + 1) = ((i + 1 : Nat) : Int) := by rw [i64_w, w64_id _ (by omega) (by omega)]; omega
   have E1 := Aside0.mk e1
   clear e1
   go_wp2_with (go_at_call 26; fail)
   clear x0 x1 x2 x3 x4 x5 x6 x7 x8 x9 x10 x11 x12
   refine calls_at ?_
   intro w0 hw0
   obtain ⟨h, hC, hlen⟩ := HH.out
   obtain ⟨h1, h2, h3⟩ := hA.out
   obtain ⟨hK, hcs, hs⟩ := HK.out
   have b0 : Below wr.heap.size wr w0 := by rw [hw0]; exact (Below.refl _ _).alloc (Nat.le_refl _) _
   clear hw0
   have hcall := h.get i hi (hlen ▸ hi) w0 cs (k30.K_below b0 hK)
   rw [hcs] at hcall
   refine hcall.mono ?_
   rintro e w1 ⟨cs', rfl, hf, hb⟩
   have B1 : Below w.heap.size w w1 := below_step (below_step h2 b0) hb
   have R1 := Kd.R_below (Kd.R_below h3 b0) hb
   have hf' : kDF.M w1 w.heap.size (fun k => w0.heap.size ≤ k) (ds[i]'(hlen ▸ hi)) cs' := DFIn.step (fun k q cells hk hl hq hc => ⟨hc, hk, Nat.le_trans (below_step h2 b0).size hk⟩) hf
   have hne : ∀ k, w0.heap.size ≤ k → some k ≠ u3.ownBlock := by
    intro k hk he
    obtain ⟨inner, ho⟩ := Kd.R_own h3
    have := own_lt ho k he.symm
    have := b0.size
    omega
   generalize hdi : ds[i]'(hlen ▸ hi) = di at hf'
   obtain ⟨n, dt, b⟩ := di
   obtain ⟨x, rfl, hx⟩ := hf'
   obtain ⟨tq, ta, rfl⟩ := hx.form
   have hM : kDF.M w1 w.heap.size (fun k => w0.heap.size ≤ k) (.mk n dt b) [.string n, .iface tq (.pointer (some ta)), .bool b, .slice none 0 0, .slice none 0 0] := ⟨_, rfl, hx⟩
   have htk : ds.take (i + 1) = ds.take i ++ [.mk n dt b] := by
    rw [List.take_succ_eq_append_getElem (hlen ▸ hi), hdi]
   have hlt : (ds.take i).length ≤ i := List.length_take_le _ _
   have HE := Aside0.mk (And.intro B1 (And.intro R1 (And.intro hM (And.intro hne (And.intro htk (And.intro h1 (And.intro hlt (And.intro b0 hs))))))))
   clear h hC hlen h1 h2 h3 hK hcs hs b0 hcall hf hb B1 R1 hM hne hdi htk hlt hx
   go_wp2_with ((with_reducible refine gate_builtin (b := .append) (xs := #[.tmp 12, .tmp 15]) rfl ?_); at_builtin; refine Kd.R_append kDF (w0 := w) w.heap.size rfl (.tmp 12) (.tmp 15) 79 61 _ 88 rfl Tryz.underlying79 info61 rfl (by decide) (by decide) u3 (ds.take i) (.mk n dt b) [.string n, .iface tq (.pointer (some ta)), .bool b, .slice none 0 0, .slice none 0 0] (fun _ => True) (fun k => w0.heap.size ≤ k) rfl rfl ?aP ?aK ?aF ?aO ?aB ?aS ?aL ?_; (case aP => exact HE.out.2.2.1); (case aK => exact fun k hk => ⟨trivial, HE.out.2.2.2.1 k hk⟩); (case aF => exact fun _ _ => trivial); (case aO => exact HE.out.2.1); (case aB => exact HE.out.1); (case aS => exact HE.out.1.size); (case aL => have := HE.out.2.2.2.2.2.2.1; omega); intro v1 w2 hr2 hb2 hg2 hat2; have HG := Aside0.mk (And.intro hr2 hb2); clear hr2 hb2 hg2 hat2)
   have h1 := hA.out.1
   go_roundg (l.length - (i + 1))
   case measure => omega
   case rel =>
    refine ⟨i + 1, by go_num, ⟨⟨by omega, HG.out.2, ?_⟩⟩⟩
    rw [HE.out.2.2.2.2.1]
    exact HG.out.1
  ·have hd : decide ((i : Int) < (l.length : Int)) = false := by simpa using hi
   go_wp2
   go_ret
   obtain ⟨h1, h2, h3⟩ := hA.out
   obtain ⟨h, hC, hlen⟩ := HH.out
   rw [List.take_of_length_le (by omega)] at h3
   exact ⟨_, rfl, h3, h2⟩
theorem at_zero101 (A8 A9 : Option Addr) (c8 c9 : Nat) (z : ByteArray) (w : World) : Calls Tryz.prog 34 #[.agg #[.int .i64 1, .int .i64 0, .bool false, .int .i64 0, .int .i64 0, .int .i64 0, .string z, .bool false, .slice A8 0 c8, .slice A9 0 c9]] w (Made w (.zero 101)) := by
 go_enter Tryz.func34, Tryz.ntmps34
 go_wp2
 go_ret
 exact ⟨_, rfl, ⟨by decide, _, rfl⟩, bl⟩
theorem at_zero104 (A8 A9 : Option Addr) (c8 c9 : Nat) (z : ByteArray) (w : World) : Calls Tryz.prog 34 #[.agg #[.int .i64 6, .int .i64 0, .bool false, .int .i64 0, .int .i64 0, .int .i64 0, .string z, .bool false, .slice A8 0 c8, .slice A9 0 c9]] w (Made w (.zero 104)) := by
 go_enter Tryz.func34, Tryz.ntmps34
 go_wp2
 go_ret
 exact ⟨_, rfl, ⟨by decide, _, rfl⟩, bl⟩
theorem at_zero106 (A8 A9 : Option Addr) (c8 c9 : Nat) (z : ByteArray) (w : World) : Calls Tryz.prog 34 #[.agg #[.int .i64 3, .int .i64 16, .bool false, .int .i64 0, .int .i64 0, .int .i64 0, .string z, .bool false, .slice A8 0 c8, .slice A9 0 c9]] w (Made w (.zero 106)) := by
 go_enter Tryz.func34, Tryz.ntmps34
 go_wp2
 go_ret
 exact ⟨_, rfl, ⟨by decide, _, rfl⟩, bl⟩
theorem at_zero108 (A8 A9 : Option Addr) (c8 c9 : Nat) (z : ByteArray) (w : World) : Calls Tryz.prog 34 #[.agg #[.int .i64 3, .int .i64 32, .bool false, .int .i64 0, .int .i64 0, .int .i64 0, .string z, .bool false, .slice A8 0 c8, .slice A9 0 c9]] w (Made w (.zero 108)) := by
 go_enter Tryz.func34, Tryz.ntmps34
 go_wp2
 go_ret
 exact ⟨_, rfl, ⟨by decide, _, rfl⟩, bl⟩
theorem at_zero110 (A8 A9 : Option Addr) (c8 c9 : Nat) (z : ByteArray) (w : World) : Calls Tryz.prog 34 #[.agg #[.int .i64 3, .int .i64 64, .bool false, .int .i64 0, .int .i64 0, .int .i64 0, .string z, .bool false, .slice A8 0 c8, .slice A9 0 c9]] w (Made w (.zero 110)) := by
 go_enter Tryz.func34, Tryz.ntmps34
 go_wp2
 go_ret
 exact ⟨_, rfl, ⟨by decide, _, rfl⟩, bl⟩
theorem at_zero112 (A8 A9 : Option Addr) (c8 c9 : Nat) (z : ByteArray) (w : World) : Calls Tryz.prog 34 #[.agg #[.int .i64 8, .int .i64 0, .bool false, .int .i64 0, .int .i64 0, .int .i64 0, .string z, .bool false, .slice A8 0 c8, .slice A9 0 c9]] w (Made w (.zero 112)) := by
 go_enter Tryz.func34, Tryz.ntmps34
 go_wp2
 go_ret
 exact ⟨_, rfl, ⟨by decide, _, rfl⟩, bl⟩
theorem at_zero114 (A8 A9 : Option Addr) (c8 c9 : Nat) (z : ByteArray) (w : World) : Calls Tryz.prog 34 #[.agg #[.int .i64 8, .int .i64 0, .bool false, .int .i64 1, .int .i64 0, .int .i64 0, .string z, .bool false, .slice A8 0 c8, .slice A9 0 c9]] w (Made w (.zero 114)) := by
 go_enter Tryz.func34, Tryz.ntmps34
 go_wp2
 go_ret
 exact ⟨_, rfl, ⟨by decide, _, rfl⟩, bl⟩
theorem at_zero127 (A8 A9 : Option Addr) (c8 c9 : Nat) (z : ByteArray) (w : World) : Calls Tryz.prog 34 #[.agg #[.int .i64 11, .int .i64 0, .bool false, .int .i64 0, .int .i64 0, .int .i64 0, .string z, .bool false, .slice A8 0 c8, .slice A9 0 c9]] w (Made w (.zero 127)) := by
 go_enter Tryz.func34, Tryz.ntmps34
 go_wp2
 go_ret
 exact ⟨_, rfl, ⟨by decide, _, rfl⟩, bl⟩
theorem at_zero129 (A8 A9 : Option Addr) (c8 c9 : Nat) (z : ByteArray) (w : World) : Calls Tryz.prog 34 #[.agg #[.int .i64 11, .int .i64 0, .bool false, .int .i64 1, .int .i64 0, .int .i64 0, .string z, .bool false, .slice A8 0 c8, .slice A9 0 c9]] w (Made w (.zero 129)) := by
 go_enter Tryz.func34, Tryz.ntmps34
 go_wp2
 go_ret
 exact ⟨_, rfl, ⟨by decide, _, rfl⟩, bl⟩
theorem at_zero131 (A8 A9 : Option Addr) (c8 c9 : Nat) (z : ByteArray) (w : World) : Calls Tryz.prog 34 #[.agg #[.int .i64 11, .int .i64 0, .bool false, .int .i64 2, .int .i64 0, .int .i64 0, .string z, .bool false, .slice A8 0 c8, .slice A9 0 c9]] w (Made w (.zero 131)) := by
 go_enter Tryz.func34, Tryz.ntmps34
 go_wp2
 go_ret
 exact ⟨_, rfl, ⟨by decide, _, rfl⟩, bl⟩
theorem at_zero133 (A8 A9 : Option Addr) (c8 c9 : Nat) (z : ByteArray) (w : World) : Calls Tryz.prog 34 #[.agg #[.int .i64 4, .int .i64 0, .bool false, .int .i64 0, .int .i64 0, .int .i64 0, .string z, .bool false, .slice A8 0 c8, .slice A9 0 c9]] w (Made w (.zero 133)) := by
 go_enter Tryz.func34, Tryz.ntmps34
 go_wp2
 go_ret
 exact ⟨_, rfl, ⟨by decide, _, rfl⟩, bl⟩
theorem at_zero135 (A8 A9 : Option Addr) (c8 c9 : Nat) (z : ByteArray) (w : World) : Calls Tryz.prog 34 #[.agg #[.int .i64 5, .int .i64 0, .bool false, .int .i64 0, .int .i64 0, .int .i64 0, .string z, .bool false, .slice A8 0 c8, .slice A9 0 c9]] w (Made w (.zero 135)) := by
 go_enter Tryz.func34, Tryz.ntmps34
 go_wp2
 go_ret
 exact ⟨_, rfl, ⟨by decide, _, rfl⟩, bl⟩
theorem at_zero137 (A8 A9 : Option Addr) (c8 c9 : Nat) (z : ByteArray) (w : World) : Calls Tryz.prog 34 #[.agg #[.int .i64 19, .int .i64 0, .bool false, .int .i64 0, .int .i64 0, .int .i64 0, .string z, .bool false, .slice A8 0 c8, .slice A9 0 c9]] w (Made w (.zero 137)) := by
 go_enter Tryz.func34, Tryz.ntmps34
 go_wp2
 go_ret
 exact ⟨_, rfl, ⟨by decide, _, rfl⟩, bl⟩
theorem at_zero139 (A8 A9 : Option Addr) (c8 c9 : Nat) (z : ByteArray) (w : World) : Calls Tryz.prog 34 #[.agg #[.int .i64 20, .int .i64 0, .bool false, .int .i64 0, .int .i64 0, .int .i64 0, .string z, .bool false, .slice A8 0 c8, .slice A9 0 c9]] w (Made w (.zero 139)) := by
 go_enter Tryz.func34, Tryz.ntmps34
 go_wp2
 go_ret
 exact ⟨_, rfl, ⟨by decide, _, rfl⟩, bl⟩
theorem at_zero141 (A8 A9 : Option Addr) (c8 c9 : Nat) (z : ByteArray) (w : World) : Calls Tryz.prog 34 #[.agg #[.int .i64 23, .int .i64 0, .bool false, .int .i64 0, .int .i64 0, .int .i64 0, .string z, .bool false, .slice A8 0 c8, .slice A9 0 c9]] w (Made w (.zero 141)) := by
 go_enter Tryz.func34, Tryz.ntmps34
 go_wp2
 go_ret
 exact ⟨_, rfl, ⟨by decide, _, rfl⟩, bl⟩
theorem at_zero143 (A8 A9 : Option Addr) (c8 c9 : Nat) (z : ByteArray) (w : World) : Calls Tryz.prog 34 #[.agg #[.int .i64 24, .int .i64 0, .bool false, .int .i64 0, .int .i64 0, .int .i64 0, .string z, .bool false, .slice A8 0 c8, .slice A9 0 c9]] w (Made w (.zero 143)) := by
 go_enter Tryz.func34, Tryz.ntmps34
 go_wp2
 go_ret
 exact ⟨_, rfl, ⟨by decide, _, rfl⟩, bl⟩
theorem at_zero198 (A8 A9 : Option Addr) (c8 c9 : Nat) (z : ByteArray) (w : World) : Calls Tryz.prog 34 #[.agg #[.int .i64 2, .int .i64 8, .bool true, .int .i64 0, .int .i64 0, .int .i64 0, .string z, .bool false, .slice A8 0 c8, .slice A9 0 c9]] w (Made w (.zero 198)) := by
 go_enter Tryz.func34, Tryz.ntmps34
 go_wp2
 go_ret
 exact ⟨_, rfl, ⟨by decide, _, rfl⟩, bl⟩
theorem at_zero200 (A8 A9 : Option Addr) (c8 c9 : Nat) (z : ByteArray) (w : World) : Calls Tryz.prog 34 #[.agg #[.int .i64 2, .int .i64 16, .bool true, .int .i64 0, .int .i64 0, .int .i64 0, .string z, .bool false, .slice A8 0 c8, .slice A9 0 c9]] w (Made w (.zero 200)) := by
 go_enter Tryz.func34, Tryz.ntmps34
 go_wp2
 go_ret
 exact ⟨_, rfl, ⟨by decide, _, rfl⟩, bl⟩
theorem at_zero202 (A8 A9 : Option Addr) (c8 c9 : Nat) (z : ByteArray) (w : World) : Calls Tryz.prog 34 #[.agg #[.int .i64 2, .int .i64 32, .bool true, .int .i64 0, .int .i64 0, .int .i64 0, .string z, .bool false, .slice A8 0 c8, .slice A9 0 c9]] w (Made w (.zero 202)) := by
 go_enter Tryz.func34, Tryz.ntmps34
 go_wp2
 go_ret
 exact ⟨_, rfl, ⟨by decide, _, rfl⟩, bl⟩
theorem at_zero204 (A8 A9 : Option Addr) (c8 c9 : Nat) (z : ByteArray) (w : World) : Calls Tryz.prog 34 #[.agg #[.int .i64 2, .int .i64 64, .bool true, .int .i64 0, .int .i64 0, .int .i64 0, .string z, .bool false, .slice A8 0 c8, .slice A9 0 c9]] w (Made w (.zero 204)) := by
 go_enter Tryz.func34, Tryz.ntmps34
 go_wp2
 go_ret
 exact ⟨_, rfl, ⟨by decide, _, rfl⟩, bl⟩
theorem at_zero206 (A8 A9 : Option Addr) (c8 c9 : Nat) (z : ByteArray) (w : World) : Calls Tryz.prog 34 #[.agg #[.int .i64 2, .int .i64 8, .bool false, .int .i64 0, .int .i64 0, .int .i64 0, .string z, .bool false, .slice A8 0 c8, .slice A9 0 c9]] w (Made w (.zero 206)) := by
 go_enter Tryz.func34, Tryz.ntmps34
 go_wp2
 go_ret
 exact ⟨_, rfl, ⟨by decide, _, rfl⟩, bl⟩
theorem at_zero208 (A8 A9 : Option Addr) (c8 c9 : Nat) (z : ByteArray) (w : World) : Calls Tryz.prog 34 #[.agg #[.int .i64 2, .int .i64 16, .bool false, .int .i64 0, .int .i64 0, .int .i64 0, .string z, .bool false, .slice A8 0 c8, .slice A9 0 c9]] w (Made w (.zero 208)) := by
 go_enter Tryz.func34, Tryz.ntmps34
 go_wp2
 go_ret
 exact ⟨_, rfl, ⟨by decide, _, rfl⟩, bl⟩
theorem at_zero210 (A8 A9 : Option Addr) (c8 c9 : Nat) (z : ByteArray) (w : World) : Calls Tryz.prog 34 #[.agg #[.int .i64 2, .int .i64 32, .bool false, .int .i64 0, .int .i64 0, .int .i64 0, .string z, .bool false, .slice A8 0 c8, .slice A9 0 c9]] w (Made w (.zero 210)) := by
 go_enter Tryz.func34, Tryz.ntmps34
 go_wp2
 go_ret
 exact ⟨_, rfl, ⟨by decide, _, rfl⟩, bl⟩
theorem at_zero212 (A8 A9 : Option Addr) (c8 c9 : Nat) (z : ByteArray) (w : World) : Calls Tryz.prog 34 #[.agg #[.int .i64 2, .int .i64 64, .bool false, .int .i64 0, .int .i64 0, .int .i64 0, .string z, .bool false, .slice A8 0 c8, .slice A9 0 c9]] w (Made w (.zero 212)) := by
 go_enter Tryz.func34, Tryz.ntmps34
 go_wp2
 go_ret
 exact ⟨_, rfl, ⟨by decide, _, rfl⟩, bl⟩
theorem at_time0 (A8 A9 : Option Addr) (c8 c9 : Nat) (z : ByteArray) (w : World) : Calls Tryz.prog 34 #[.agg #[.int .i64 9, .int .i64 0, .bool false, .int .i64 0, .int .i64 0, .int .i64 0, .string z, .bool false, .slice A8 0 c8, .slice A9 0 c9]] w (Made w (.num 116 0)) := by
 go_enter Tryz.func34, Tryz.ntmps34
 go_wp2
 go_ret
 exact ⟨_, rfl, ⟨by decide, _, rfl, Nat.le_succ _, blk_new_at (by simp)⟩, bl⟩
theorem at_time1 (A8 A9 : Option Addr) (c8 c9 : Nat) (z : ByteArray) (w : World) : Calls Tryz.prog 34 #[.agg #[.int .i64 9, .int .i64 0, .bool false, .int .i64 1, .int .i64 0, .int .i64 0, .string z, .bool false, .slice A8 0 c8, .slice A9 0 c9]] w (Made w (.num 116 1)) := by
 go_enter Tryz.func34, Tryz.ntmps34
 go_wp2
 go_ret
 exact ⟨_, rfl, ⟨by decide, _, rfl, Nat.le_succ _, blk_new_at (by simp)⟩, bl⟩
theorem at_time2 (A8 A9 : Option Addr) (c8 c9 : Nat) (z : ByteArray) (w : World) : Calls Tryz.prog 34 #[.agg #[.int .i64 9, .int .i64 0, .bool false, .int .i64 2, .int .i64 0, .int .i64 0, .string z, .bool false, .slice A8 0 c8, .slice A9 0 c9]] w (Made w (.num 120 2)) := by
 go_enter Tryz.func34, Tryz.ntmps34
 go_wp2
 go_ret
 exact ⟨_, rfl, ⟨by decide, _, rfl, Nat.le_succ _, blk_new_at (by simp)⟩, bl⟩
theorem at_time3 (A8 A9 : Option Addr) (c8 c9 : Nat) (z : ByteArray) (w : World) : Calls Tryz.prog 34 #[.agg #[.int .i64 9, .int .i64 0, .bool false, .int .i64 3, .int .i64 0, .int .i64 0, .string z, .bool false, .slice A8 0 c8, .slice A9 0 c9]] w (Made w (.num 120 3)) := by
 go_enter Tryz.func34, Tryz.ntmps34
 go_wp2
 go_ret
 exact ⟨_, rfl, ⟨by decide, _, rfl, Nat.le_succ _, blk_new_at (by simp)⟩, bl⟩
theorem at_dur (u : Int) (A8 A9 : Option Addr) (c8 c9 : Nat) (z : ByteArray) (w : World) : Calls Tryz.prog 34 #[.agg #[.int .i64 18, .int .i64 0, .bool false, .int .i64 u, .int .i64 0, .int .i64 0, .string z, .bool false, .slice A8 0 c8, .slice A9 0 c9]] w (Made w (.num 125 u)) := by
 go_enter Tryz.func34, Tryz.ntmps34
 go_wp2
 go_ret
 exact ⟨_, rfl, ⟨by decide, _, rfl, Nat.le_succ _, blk_new_at (by simp)⟩, bl⟩
theorem at_fsb (u : Int) (A8 A9 : Option Addr) (c8 c9 : Nat) (z : ByteArray) (w : World) : Calls Tryz.prog 34 #[.agg #[.int .i64 15, .int .i64 u, .bool false, .int .i64 0, .int .i64 0, .int .i64 0, .string z, .bool false, .slice A8 0 c8, .slice A9 0 c9]] w (Made w (.num 145 u)) := by
 go_enter Tryz.func34, Tryz.ntmps34
 go_wp2
 go_ret
 exact ⟨_, rfl, ⟨by decide, _, rfl, Nat.le_succ _, blk_new_at (by simp)⟩, bl⟩
theorem at_stamp (u : Int) (A8 A9 : Option Addr) (c8 c9 : Nat) (z : ByteArray) (w : World) : Calls Tryz.prog 34 #[.agg #[.int .i64 10, .int .i64 0, .bool false, .int .i64 u, .int .i64 0, .int .i64 0, .string z, .bool false, .slice A8 0 c8, .slice A9 0 c9]] w (Made w (.stamp u z)) := by
 go_enter Tryz.func34, Tryz.ntmps34
 go_wp2
 go_ret
 exact ⟨_, rfl, ⟨_, rfl, Nat.le_succ _, blk_new_at (by simp)⟩, bl⟩
theorem i32_id (a : Int) (h0 : -2000000000 ≤ a) (h1 : a ≤ 2000000000) : IntKind.i32.wrap a = a := by
 simp [IntKind.wrap, IntKind.bits, IntKind.signed]; omega
theorem dec32 (p c : Int) (hp : 1 ≤ p) (hp2 : p ≤ 76) (hc : -76 ≤ c) (hc2 : c ≤ 76) (A8 A9 : Option Addr) (c8 c9 : Nat) (z : ByteArray) (w : World) : Calls Tryz.prog 63 #[.agg #[.int .i64 7, .int .i64 32, .bool false, .int .i64 0, .int .i64 p, .int .i64 c, .string z, .bool false, .slice A8 0 c8, .slice A9 0 c9]] w (Made w (.dec 214 p c)) := by
 have e1 := i32_id p (by omega) (by omega)
 have e2 := i32_id c (by omega) (by omega)
 go_enter Tryz.func63, Tryz.ntmps63
 go_wp2
 go_region
 go_wp2
 go_ret
 exact ⟨_, rfl, ⟨by decide, _, rfl, by omega, blk_new_at (by simp)⟩, bl⟩
theorem at_dec32 (p c : Int) (hp : 1 ≤ p) (hp2 : p ≤ 76) (hc : -76 ≤ c) (hc2 : c ≤ 76) (A8 A9 : Option Addr) (c8 c9 : Nat) (z : ByteArray) (w : World) : Calls Tryz.prog 34 #[.agg #[.int .i64 7, .int .i64 32, .bool false, .int .i64 0, .int .i64 p, .int .i64 c, .string z, .bool false, .slice A8 0 c8, .slice A9 0 c9]] w (Made w (.dec 214 p c)) := by
 go_enter Tryz.func34, Tryz.ntmps34
 go_wp2_with (go_at_call 63; refine (dec32 p c hp hp2 hc hc2 A8 A9 c8 c9 z _).mono ?_; rintro e w1 ⟨v, rfl, hd, hb⟩; have HD := Aside0.mk (And.intro hd hb); clear hd hb)
 go_wp2
 go_ret
 obtain ⟨hd, hb⟩ := HD.out
 exact ⟨_, rfl, hd.mono (fun k hk => Nat.le_trans (by simp) hk), below_step bl hb⟩
theorem dec64 (p c : Int) (hp : 1 ≤ p) (hp2 : p ≤ 76) (hc : -76 ≤ c) (hc2 : c ≤ 76) (A8 A9 : Option Addr) (c8 c9 : Nat) (z : ByteArray) (w : World) : Calls Tryz.prog 63 #[.agg #[.int .i64 7, .int .i64 64, .bool false, .int .i64 0, .int .i64 p, .int .i64 c, .string z, .bool false, .slice A8 0 c8, .slice A9 0 c9]] w (Made w (.dec 217 p c)) := by
 have e1 := i32_id p (by omega) (by omega)
 have e2 := i32_id c (by omega) (by omega)
 go_enter Tryz.func63, Tryz.ntmps63
 go_wp2
 go_region
 go_wp2
 go_ret
 exact ⟨_, rfl, ⟨by decide, _, rfl, by omega, blk_new_at (by simp)⟩, bl⟩
theorem at_dec64 (p c : Int) (hp : 1 ≤ p) (hp2 : p ≤ 76) (hc : -76 ≤ c) (hc2 : c ≤ 76) (A8 A9 : Option Addr) (c8 c9 : Nat) (z : ByteArray) (w : World) : Calls Tryz.prog 34 #[.agg #[.int .i64 7, .int .i64 64, .bool false, .int .i64 0, .int .i64 p, .int .i64 c, .string z, .bool false, .slice A8 0 c8, .slice A9 0 c9]] w (Made w (.dec 217 p c)) := by
 go_enter Tryz.func34, Tryz.ntmps34
 go_wp2_with (go_at_call 63; refine (dec64 p c hp hp2 hc hc2 A8 A9 c8 c9 z _).mono ?_; rintro e w1 ⟨v, rfl, hd, hb⟩; have HD := Aside0.mk (And.intro hd hb); clear hd hb)
 go_wp2
 go_ret
 obtain ⟨hd, hb⟩ := HD.out
 exact ⟨_, rfl, hd.mono (fun k hk => Nat.le_trans (by simp) hk), below_step bl hb⟩
theorem dec128 (p c : Int) (hp : 1 ≤ p) (hp2 : p ≤ 76) (hc : -76 ≤ c) (hc2 : c ≤ 76) (A8 A9 : Option Addr) (c8 c9 : Nat) (z : ByteArray) (w : World) : Calls Tryz.prog 63 #[.agg #[.int .i64 7, .int .i64 128, .bool false, .int .i64 0, .int .i64 p, .int .i64 c, .string z, .bool false, .slice A8 0 c8, .slice A9 0 c9]] w (Made w (.dec 219 p c)) := by
 have e1 := i32_id p (by omega) (by omega)
 have e2 := i32_id c (by omega) (by omega)
 go_enter Tryz.func63, Tryz.ntmps63
 go_wp2
 go_region
 go_wp2
 go_ret
 exact ⟨_, rfl, ⟨by decide, _, rfl, by omega, blk_new_at (by simp)⟩, bl⟩
theorem at_dec128 (p c : Int) (hp : 1 ≤ p) (hp2 : p ≤ 76) (hc : -76 ≤ c) (hc2 : c ≤ 76) (A8 A9 : Option Addr) (c8 c9 : Nat) (z : ByteArray) (w : World) : Calls Tryz.prog 34 #[.agg #[.int .i64 7, .int .i64 128, .bool false, .int .i64 0, .int .i64 p, .int .i64 c, .string z, .bool false, .slice A8 0 c8, .slice A9 0 c9]] w (Made w (.dec 219 p c)) := by
 go_enter Tryz.func34, Tryz.ntmps34
 go_wp2_with (go_at_call 63; refine (dec128 p c hp hp2 hc hc2 A8 A9 c8 c9 z _).mono ?_; rintro e w1 ⟨v, rfl, hd, hb⟩; have HD := Aside0.mk (And.intro hd hb); clear hd hb)
 go_wp2
 go_ret
 obtain ⟨hd, hb⟩ := HD.out
 exact ⟨_, rfl, hd.mono (fun k hk => Nat.le_trans (by simp) hk), below_step bl hb⟩
theorem dec256 (p c : Int) (hp : 1 ≤ p) (hp2 : p ≤ 76) (hc : -76 ≤ c) (hc2 : c ≤ 76) (A8 A9 : Option Addr) (c8 c9 : Nat) (z : ByteArray) (w : World) : Calls Tryz.prog 63 #[.agg #[.int .i64 7, .int .i64 256, .bool false, .int .i64 0, .int .i64 p, .int .i64 c, .string z, .bool false, .slice A8 0 c8, .slice A9 0 c9]] w (Made w (.dec 221 p c)) := by
 have e1 := i32_id p (by omega) (by omega)
 have e2 := i32_id c (by omega) (by omega)
 go_enter Tryz.func63, Tryz.ntmps63
 go_wp2
 go_region
 go_wp2
 go_ret
 exact ⟨_, rfl, ⟨by decide, _, rfl, by omega, blk_new_at (by simp)⟩, bl⟩
theorem at_dec256 (p c : Int) (hp : 1 ≤ p) (hp2 : p ≤ 76) (hc : -76 ≤ c) (hc2 : c ≤ 76) (A8 A9 : Option Addr) (c8 c9 : Nat) (z : ByteArray) (w : World) : Calls Tryz.prog 34 #[.agg #[.int .i64 7, .int .i64 256, .bool false, .int .i64 0, .int .i64 p, .int .i64 c, .string z, .bool false, .slice A8 0 c8, .slice A9 0 c9]] w (Made w (.dec 221 p c)) := by
 go_enter Tryz.func34, Tryz.ntmps34
 go_wp2_with (go_at_call 63; refine (dec256 p c hp hp2 hc hc2 A8 A9 c8 c9 z _).mono ?_; rintro e w1 ⟨v, rfl, hd, hb⟩; have HD := Aside0.mk (And.intro hd hb); clear hd hb)
 go_wp2
 go_ret
 obtain ⟨hd, hb⟩ := HD.out
 exact ⟨_, rfl, hd.mono (fun k hk => Nat.le_trans (by simp) hk), below_step bl hb⟩
end Go.Proofs.YteebgnhhjlgnjaaGreatDoor.V
