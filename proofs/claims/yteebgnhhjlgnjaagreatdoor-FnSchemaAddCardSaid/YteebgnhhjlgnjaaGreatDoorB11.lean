/- arrow.newSchema. -/
import Derived.Test.YteebgnhhjlgnjaaGreatDoorB10
namespace Go.Proofs.YteebgnhhjlgnjaaGreatDoor.V
open Go.RowKit Go.Proofs.YteebgnhhjlgnjaaGreatDoorW.PrintWords Go.Proofs.YteebgnhhjlgnjaaGreatDoorW.PrintLast Go.Proofs.YteebgnhhjlgnjaaGreatDoorW.PrintMore
set_option maxHeartbeats 40000000
set_option maxRecDepth 100000
set_option linter.unusedVariables false
set_option linter.unusedSimpArgs false
section
variable {P : Program} {md : Region.Mode} {ops : Array Oper} {Q : Exit → Act → World → Prop} {S : World → Prop} {ds : List Nat} {n m fuel : Nat} {oi : Oper} {a a' : Act} {w : World} {l : Array Bool}
theorem rv (i N M : Nat) {rs : List Nat} (v : Value) (hs : S w) (h : wpAnyLast P md ops Q S ds fuel (ba n M) (a.put (some N) v) w)
 (hr : AllReadyL P md ops Q S ds fuel (ba n m) a w rs) (hi : ops[i]? = some oi := by exact rfl) (hN : oi.dst = some N := by exact rfl)
 (hl : (ba n m).setIfInBounds i true = ba n M := by kernel_rfl) (hd : i ∉ ds := by decide) (hw : Region.wanted oi (yielded ops a.tmps) = true := by rfl) (hrun : (execOp a.eval oi).run P w = .ok (.value v) w := by first | (go_simp; done) | (go_simp; rfl)) : AllReadyL P md ops Q S ds fuel (ba n m) a w (i :: rs) := by
 refine AllReadyL.cons hi hd (fun K hK => ?_) hr
 rw [hl] at hK
 rw [if_pos hw]
 unfold Oper.wp
 rw [hrun]
 show K (a.put oi.dst v) w
 rw [hN]
 exact hK.out _ _ hs (fun _ => h)
theorem rm (i M : Nat) {rs_ : List Nat} (w1 : World) (hs' : S w1) (h : wpAnyLast P md ops Q S ds fuel (ba n M) a w1) (hr : AllReadyL P md ops Q S ds fuel (ba n m) a w rs_) (hi : ops[i]? = some oi := by exact rfl) (hN : oi.dst = none := by exact rfl)
 (hl : (ba n m).setIfInBounds i true = ba n M := by kernel_rfl) (hd : i ∉ ds := by decide) (hw : Region.wanted oi (yielded ops a.tmps) = true := by rfl) (hrun : (execOp a.eval oi).run P w = .ok .skip w1 := by first | (go_simp; done) | (go_simp; rfl)) : AllReadyL P md ops Q S ds fuel (ba n m) a w (i :: rs_) := rs i M w1 hrun hs' h hr hi hN hl hd hw
end
theorem upd_of {a : Act} {oi : Oper} {w w6 : World} {x y z : Operand} {m : Value} {s : Value} {v : Value} (hop : oi.op = .mapUpdate 82 x y z) (hx : a.eval x = m) (hy : a.eval y = s) (hz : a.eval z = v) (h : (Instr.mapUpdate 82 m s v).run Tryz.prog w = .ok () w6) : (execOp a.eval oi).run Tryz.prog w = .ok .skip w6 := by
 unfold execOp
 simp [hop, hx, hy, hz, h]
theorem look_of {a : Act} {oi : Oper} {w : World} {x y : Operand} {m : Value} {s : Value} {v : Value} (hop : oi.op = .lookup 82 x y false) (hx : a.eval x = m) (hy : a.eval y = s) (h : (Instr.lookup 82 m s false).run Tryz.prog w = .ok v w) : (execOp a.eval oi).run Tryz.prog w = .ok (.value v) w := by
 unfold execOp
 simp [hop, hx, hy, h]
theorem blk_lt2 {W : World} {T g : Nat} {o : Obj} (h : W.heap[T]? = some o) (e : T = g) : g ≤ W.heap.size := by have := blk_lt h; omega
theorem new47_0 {NM : ByteArray → Prop} {G : World → Nat → Nat → Nat → Prop} (hG : GSys NM G) (ds : List DF) (hl : ds.length < 2 ^ 30) (hs : ∀ d ∈ ds, d.name.size ≤ maxLen ∧ NM d.name) (A : Option Addr) (c : Nat) (ok : Nat → Prop) (K V : Option Addr) (m k v mb : Nat) (w : World) (hR : RowAt w ok A ds) (h0 : w.cell? ⟨mb, 0, none⟩ = some (.slice K m k)) (h1 : w.cell? ⟨mb, 1, none⟩ = some (.slice V m v)) :
 Calls Tryz.prog 47 #[.slice A ds.length c, .pointer (some ⟨mb, 0, none⟩), .int .i16 0] w fun e w' => (∃ T M, e = .returned (.pointer (some ⟨T, 0, none⟩)) ∧ w.heap.size ≤ T ∧ w'.heap[T]? = some (.cells #[.slice A ds.length c, .map (some M), .slice K m k, .slice V m v, .int .i16 0] 86 (0, 0)) ∧ ∃ B, w.heap.size ≤ B ∧ B ≤ w'.heap.size ∧ G w' B M ds.length) ∧ Below w.heap.size w w' := by
 have HGS := Aside0.mk hG
 have HH := Aside0.mk (And.intro hR (And.intro hs hl))
 have HM := Aside0.mk (And.intro h0 h1)
 have hmm := make82 ds.length
 clear hR hs hl h0 h1 hG
 go_enter Tryz.func47, Tryz.ntmps47
 go_upto_region 2 with fail
 refine wp_at ?_
 intro w1 hw1
 obtain ⟨M, hM⟩ : ∃ M, M = w.heap.size := ⟨_, rfl⟩
 obtain ⟨T, hT⟩ : ∃ T, T = w.heap.size + 1 := ⟨_, rfl⟩
 have b1 : Below w.heap.size w w1 := by rw [hw1]; repeat (first | exact Below.refl _ _ | apply b1_ | apply b2_ | apply b3_)
 have kT : w1.heap[T]? = some (.cells #[.slice A ds.length c, .map (some M), .slice none 0 0, .slice none 0 0, .int .i16 0] 86 (0, 0)) := by rw [hw1, hM, hT]; exact blk_new_at (by simp)
 have gM : G w1 (w.heap.size + 1) M 0 := by rw [hw1, hM]; exact HGS.out.below (HGS.out.made w) (b1_ (Below.refl _ _) _)
 have HMT := Aside0.mk (And.intro hM hT)
 rw [← hT, ← hM]
 have y0 := pw_cell_below b1 HM.out.1
 have y1 := pw_cell_below b1 HM.out.2
 have z2 := (blk_cell kT 2).trans (show _ = some (.slice none 0 0 : Value) from rfl)
 have z3 := (blk_cell kT 3).trans (show _ = some (.slice none 0 0 : Value) from rfl)
 have f2 := blk_frozen kT 2
 have f3 := blk_frozen kT 3
 have H1 := Aside0.mk (And.intro b1 (And.intro kT gM))
 clear hw1 hM hT b1 kT gM hmm
 go_upto_region 4 with fail
 refine wp_at ?_
 intro w2 hw2
 have b2 : Below w.heap.size w w2 := by rw [hw2]; exact (H1.out.1.setCell (p := ⟨T, 2, none⟩) (by have := HMT.out.2; dsimp only; omega) _).setCell (p := ⟨T, 3, none⟩) (by have := HMT.out.2; dsimp only; omega) _
 have kT2 : w2.heap[T]? = some (.cells #[.slice A ds.length c, .map (some M), .slice K m k, .slice V m v, .int .i16 0] 86 (0, 0)) := by rw [hw2]; exact blk_put_at (blk_put_at H1.out.2.1 rfl) rfl
 have gM2 : G w2 (w.heap.size + 1) M 0 := by
  rw [hw2]
  exact HGS.out.kept H1.out.2.2 (set_grown (set_grown ⟨rfl, rfl, rfl, Nat.le_refl _, fun _ _ _ => rfl⟩ 2 _) 3 _) (fun g e => by cases e; exact ⟨_, _, H1.out.2.1, by decide⟩)
 have H2 := Aside0.mk (And.intro b2 (And.intro kT2 gM2))
 clear hw2 b2 kT2 gM2 y0 y1 z2 z3 f2 f3
 go_wp2
 go_loopg [27] ds.length (fun kq v27 wr => ∃ i : Nat, v27 = .int .i64 (i : Int) ∧ Aside0 (i + kq = ds.length ∧ wr.heap[T]? = some (.cells #[.slice A ds.length c, .map (some M), .slice K m k, .slice V m v, .int .i16 0] 86 (0, 0)) ∧ (∃ B, w.heap.size ≤ B ∧ B ≤ wr.heap.size ∧ G wr B M i) ∧ Below w.heap.size w wr))
 case atStart => exact ⟨0, rfl, ⟨⟨by omega, H2.out.2.1, ⟨_, by omega, blk_lt2 H2.out.2.1 HMT.out.2, H2.out.2.2⟩, H2.out.1⟩⟩⟩
 case round =>
  obtain ⟨i, rfl, hA⟩ := hrel
  by_cases hi : i < ds.length
  ·have hd : decide ((i : Int) < (ds.length : Int)) = true := by simpa using hi
   obtain ⟨hR, hs, hl⟩ := HH.out
   obtain ⟨l1, l2, ⟨B, hB, hB2, l4⟩, l5⟩ := hA.out
   obtain ⟨ad, rfl, hrow⟩ := hR.below l5 (by omega)
   obtain ⟨cs, hf, hcell⟩ := hrow i hi
   have hsz := hs _ (List.getElem_mem hi)
   generalize hdi : ds[i] = di at hf hsz
   obtain ⟨n, dt, b⟩ := di
   obtain ⟨x, rfl, hx⟩ := hf
   obtain ⟨tq, tz, rfl⟩ := hx.form
   have x0 : wr.cell? (ad.add (i * 5)) = some (.string n) := hcell 0 _ rfl
   have x1 : wr.cell? ⟨(ad.add (i * 5)).block, (ad.add (i * 5)).off + 1, none⟩ = some (.iface tq (.pointer (some tz))) := by rw [← add_field _ _ 1 (by omega)]; exact hcell 1 _ rfl
   have x2 : wr.cell? ⟨(ad.add (i * 5)).block, (ad.add (i * 5)).off + 2, none⟩ = some (.bool b) := by rw [← add_field _ _ 2 (by omega)]; exact hcell 2 _ rfl
   have x3 : wr.cell? ⟨(ad.add (i * 5)).block, (ad.add (i * 5)).off + 3, none⟩ = some (.slice none 0 0) := by rw [← add_field _ _ 3 (by omega)]; exact hcell 3 _ rfl
   have x4 : wr.cell? ⟨(ad.add (i * 5)).block, (ad.add (i * 5)).off + 4, none⟩ = some (.slice none 0 0) := by rw [← add_field _ _ 4 (by omega)]; exact hcell 4 _ rfl
   have e1 : wrap64 ((i : Int) + 1) = ((i + 1 : Nat) : Int) := by rw [w64_id _ (by omega) (by omega)]; omega
   have E1 := Aside0.mk e1
   have HI := Aside0.mk (show i < 2 ^ 30 from by omega)
   have HN := Aside0.mk (show n.size ≤ maxLen ∧ NM n from hsz)
   have HBB := Aside0.mk (And.intro hB (And.intro hB2 (And.intro l4 (show w.heap.size ≤ M from by have := HMT.out.1; omega))))
   clear hR hs hl l1 l2 hB hB2 l4 l5 hrow hcell hsz hdi hx e1
   go_upto_region 9 with fail
   refine wp_at ?_
   intro w3 hw3
   have b3 : Below wr.heap.size wr w3 := by rw [hw3]; repeat (first | exact Below.refl _ _ | apply b1_ | apply b2_ | apply b3_)
   have kF : w3.heap[wr.heap.size]? = some (.cells #[.string n, .iface tq (.pointer (some tz)), .bool b, .slice none 0 0, .slice none 0 0] 61 (0, 0)) := by rw [hw3]; exact blk_new_at rfl
   clear hw3 x0 x1 x2 x3 x4
   have kT3 := blk_below hA.out.2.1 b3
   have bw := below_step hA.out.2.2.2 b3
   have yT := (blk_cell kT3 1).trans (show _ = some (.map (some M) : Value) from rfl)
   have yF := (blk_cell kF 0).trans (show _ = some (.string n : Value) from rfl)
   have H3 := Aside0.mk (And.intro kT3 (And.intro kF (And.intro b3 (HGS.out.below HBB.out.2.2.1 b3))))
   refine sc 17 (fun w' => Below w.heap.size w w' ∧ w'.cell? ⟨T, 1, none⟩ = some (.map (some M)) ∧ w'.cell? ⟨wr.heap.size, 0, none⟩ = some (.string n)) (fun hk0 v0 hs0 hb => ?_)
   have tT := blk_below H3.out.1 hb
   have tF := blk_below H3.out.2.1 hb
   have gv0 := HGS.out.below H3.out.2.2.2 hb
   replace HBB := Aside0.mk (And.intro HBB.out.1 (And.intro (show B ≤ v0.heap.size from by have := HBB.out.2.1; have := H3.out.2.2.1.size; have := hb.size; omega) (And.intro True.intro HBB.out.2.2.2)))
   clear kT3 kF b3 bw yT yF hb
   refine pu 0 36 1 ?_
   refine pu 1 37 3 ?_
   refine pu 2 38 7 ?_
   refine ta 3 39 15 ?_
   refine pu 4 40 31 ?_
   refine ta 5 41 63 ?_
   refine pu 6 42 127 ?_
   refine pu 7 43 255 ?_
   refine pu 8 44 511 ?_
   refine ta 9 45 1023 ?_
   refine pu 10 46 2047 ?_
   refine ta 11 47 4095 ?_
   refine pu 13 49 12287 ?_
   obtain ⟨lv0, zs0, hl20, ho0, hzl0, hback0⟩ := HGS.out.look gv0 (by have := HI.out; unfold maxLen; omega) n HN.out.2 HN.out.1
   refine rdy [12, 14] (rv 12 48 16383 lv0 hs0 (no 48 ?_) (rl 14 50 28671 (.slice (some ⟨v0.heap.size, 0, none⟩) 1 1) (.cells #[.int .i64 (i : Int)] 3 (0, 0)) hk0 hs0 (fun v1 hz1 hg1 hs1 hb1 => no 50 ?_) rn) (hrun := look_of (m := .map (some M)) (s := .string n) (by rfl) (by rfl) (by rfl) hl20))
   ·refine rdy [14] (rl 14 50 32767 (.slice (some ⟨v0.heap.size, 0, none⟩) 1 1) (.cells #[.int .i64 (i : Int)] 3 (0, 0)) hk0 hs0 (fun v1 hz1 hg1 hs1 hb1 => no 50 ?_) rn)
    have hbL := Below.refl v0.heap.size v0
    obtain ⟨lv, hlv⟩ : ∃ lv, lv = lv0 := ⟨_, rfl⟩
    subst hlv
    have ho := ho0
    have hzl := hzl0
    have hback := hback0
    obtain ⟨zs, hzs⟩ : ∃ zs, zs = zs0 := ⟨_, rfl⟩
    subst hzs
    clear ho0 hzl0 hback0
    have HQ := Aside0.mk (And.intro ho (And.intro hzl hback))
    have FX := Aside0.mk (And.intro (blk_below (blk_below tT hbL) hb1) (And.intro (blk_below (blk_below tF hbL) hb1) hb1))
    obtain ⟨es, cl, hmp⟩ := HGS.out.map (HGS.out.below gv0 hbL)
    have hmp1 := blk_below hmp hb1
    clear ho hzl hback
    refine rdy [15] (rax 15 51 65535 B (.tmp 48) (.tmp 50) 26 3 (.int .i64 0) 8 lv zs.length (zs.map (Value.int .i64)) ⟨v0.heap.size, 0, none⟩ (.int .i64 (i : Int)) (own_below_ HQ.out.1.1 hb1) ((blk_cell hg1 0).trans rfl) rfl (by have := HBB.out.2; have := hbL.size; have := hb1.size; omega) (by have := HQ.out.2.1; have := HI.out; omega) (fun z1 v2 hown hg hat => ⟨?_, no 51 ?_⟩) rn Tryz.underlying26 info3 rfl (by decide))
    ·have nt : ∀ q : Nat, q ≠ 3 → ∀ g cs, v1.heap[g]? = some (.cells cs q (0, 0)) → some g ≠ lv.ownBlock := fun q hq g cs hc he => by
      obtain ⟨c3, hc3⟩ := own_typed (own_below_ HQ.out.1.1 hb1) g he.symm
      rw [hc] at hc3
      injection hc3 with hc3
      injection hc3 with _ hc3
      exact hq hc3
     exact ⟨hs1.1.grown hg hs1.1.size (fun q hq => Nat.le_trans HBB.out.1 (own_base HQ.out.1.1 q hq)), (blk_cell (grown_blk hg FX.out.1 (nt 86 (by decide) _ _ FX.out.1)) 1).trans rfl, (blk_cell (grown_blk hg FX.out.2.1 (nt 61 (by decide) _ _ FX.out.2.1)) 0).trans rfl⟩
    have nt : ∀ q : Nat, q ≠ 3 → ∀ g cs, v1.heap[g]? = some (.cells cs q (0, 0)) → some g ≠ lv.ownBlock := fun q hq g cs hc he => by
     obtain ⟨c3, hc3⟩ := own_typed (own_below_ HQ.out.1.1 hb1) g he.symm
     rw [hc] at hc3
     injection hc3 with hc3
     injection hc3 with _ hc3
     exact hq hc3
    have T2 := grown_blk hg FX.out.1 (nt 86 (by decide) _ _ FX.out.1)
    have F2 := grown_blk hg FX.out.2.1 (nt 61 (by decide) _ _ FX.out.2.1)
    have B2 := hs1.1.grown hg hs1.1.size (fun q hq => Nat.le_trans HBB.out.1 (own_base HQ.out.1.1 q hq))
    have hm2 := grown_blk hg hmp1 (fun he => by
     obtain ⟨c3, hc3⟩ := own_typed (own_below_ HQ.out.1.1 hb1) _ he.symm
     rw [hmp1] at hc3
     cases hc3)
    obtain ⟨w6, hup, hg6, hgr6⟩ := HQ.out.2.2 v2 z1 (World.grownBy.trans (grown_of_below hb1 _) hg) (HQ.out.1.appended (by simpa using hown) (by have := HI.out; simp [Lit.wf, IntKind.min, IntKind.max, IntKind.bits, IntKind.signed]; omega)) (by rcases hat with h | h; exact .inl h; exact .inr ⟨_, h, hb1.size⟩)
    have T6 := grown_blk hgr6 T2 (fun he => by cases he; rw [T2] at hm2; cases hm2)
    have F6 := grown_blk hgr6 F2 (fun he => by cases he; rw [F2] at hm2; cases hm2)
    have B6 := B2.grown hgr6 B2.size (fun q hq => by cases hq; exact HBB.out.2.2.2)
    have HE := Aside0.mk (And.intro T6 (And.intro B6 (And.intro hg6 (show B ≤ w6.heap.size from by have := HBB.out.2.1; have := hbL.size; have := hb1.size; have := hg.size; have := hgr6.size; omega))))
    refine rdy [16] (rm 16 131071 w6 ⟨B6, (blk_cell T6 1).trans rfl, (blk_cell F6 0).trans rfl⟩ ?_ rn (hrun := upd_of (m := .map (some M)) (s := .string n) (v := z1) (by rfl) (by rfl) (by rfl) (by rfl) hup))
    clear hs1 hb1 hk0 hown hg hat nt T2 F2 B2 hm2 hmp hmp1 hup hg6 hgr6 T6 F6 B6 hbL hz1 hg1 hs0 gv0 tT tF hl20
    refine done_ (by kernel_rfl) ?_
    go_wp2
    have h1 := hA.out.1
    go_roundg (ds.length - (i + 1))
    case measure => omega
    case rel => exact ⟨i + 1, by first | go_num | (rw [E1.out]), ⟨⟨by omega, HE.out.1, ⟨B, HBB.out.1, HE.out.2.2.2, HE.out.2.2.1⟩, HE.out.2.1⟩⟩⟩
   ·obtain ⟨lv, zs, hl2, ho, hzl, hback⟩ := HGS.out.look (HGS.out.below gv0 hb1) (by have := HI.out; unfold maxLen; omega) n HN.out.2 HN.out.1
    have hbL := hb1
    have hs1' := hs1
    have hgS := hg1
    clear hb1 hl20 ho0 hzl0 hback0
    refine rdy [12] (rv 12 48 32767 lv hs1 (no 48 ?_) rn (hrun := look_of (m := .map (some M)) (s := .string n) (by rfl) (by rfl) (by rfl) hl2))
    have hb1 := Below.refl v1.heap.size v1
    have HQ := Aside0.mk (And.intro ho (And.intro hzl hback))
    have FX := Aside0.mk (And.intro (blk_below (blk_below tT hbL) hb1) (And.intro (blk_below (blk_below tF hbL) hb1) hb1))
    obtain ⟨es, cl, hmp⟩ := HGS.out.map (HGS.out.below gv0 hbL)
    have hmp1 := blk_below hmp hb1
    clear ho hzl hback
    refine rdy [15] (rax 15 51 65535 B (.tmp 48) (.tmp 50) 26 3 (.int .i64 0) 8 lv zs.length (zs.map (Value.int .i64)) ⟨v0.heap.size, 0, none⟩ (.int .i64 (i : Int)) (own_below_ HQ.out.1.1 hb1) ((blk_cell hgS 0).trans rfl) rfl (by have := HBB.out.2; have := hbL.size; have := hb1.size; omega) (by have := HQ.out.2.1; have := HI.out; omega) (fun z1 v2 hown hg hat => ⟨?_, no 51 ?_⟩) rn Tryz.underlying26 info3 rfl (by decide))
    ·have nt : ∀ q : Nat, q ≠ 3 → ∀ g cs, v1.heap[g]? = some (.cells cs q (0, 0)) → some g ≠ lv.ownBlock := fun q hq g cs hc he => by
      obtain ⟨c3, hc3⟩ := own_typed (own_below_ HQ.out.1.1 hb1) g he.symm
      rw [hc] at hc3
      injection hc3 with hc3
      injection hc3 with _ hc3
      exact hq hc3
     exact ⟨hs1.1.grown hg hs1.1.size (fun q hq => Nat.le_trans HBB.out.1 (own_base HQ.out.1.1 q hq)), (blk_cell (grown_blk hg FX.out.1 (nt 86 (by decide) _ _ FX.out.1)) 1).trans rfl, (blk_cell (grown_blk hg FX.out.2.1 (nt 61 (by decide) _ _ FX.out.2.1)) 0).trans rfl⟩
    have nt : ∀ q : Nat, q ≠ 3 → ∀ g cs, v1.heap[g]? = some (.cells cs q (0, 0)) → some g ≠ lv.ownBlock := fun q hq g cs hc he => by
     obtain ⟨c3, hc3⟩ := own_typed (own_below_ HQ.out.1.1 hb1) g he.symm
     rw [hc] at hc3
     injection hc3 with hc3
     injection hc3 with _ hc3
     exact hq hc3
    have T2 := grown_blk hg FX.out.1 (nt 86 (by decide) _ _ FX.out.1)
    have F2 := grown_blk hg FX.out.2.1 (nt 61 (by decide) _ _ FX.out.2.1)
    have B2 := hs1.1.grown hg hs1.1.size (fun q hq => Nat.le_trans HBB.out.1 (own_base HQ.out.1.1 q hq))
    have hm2 := grown_blk hg hmp1 (fun he => by
     obtain ⟨c3, hc3⟩ := own_typed (own_below_ HQ.out.1.1 hb1) _ he.symm
     rw [hmp1] at hc3
     cases hc3)
    obtain ⟨w6, hup, hg6, hgr6⟩ := HQ.out.2.2 v2 z1 (World.grownBy.trans (grown_of_below hb1 _) hg) (HQ.out.1.appended (by simpa using hown) (by have := HI.out; simp [Lit.wf, IntKind.min, IntKind.max, IntKind.bits, IntKind.signed]; omega)) (by rcases hat with h | h; exact .inl h; exact .inr ⟨_, h, hb1.size⟩)
    have T6 := grown_blk hgr6 T2 (fun he => by cases he; rw [T2] at hm2; cases hm2)
    have F6 := grown_blk hgr6 F2 (fun he => by cases he; rw [F2] at hm2; cases hm2)
    have B6 := B2.grown hgr6 B2.size (fun q hq => by cases hq; exact HBB.out.2.2.2)
    have HE := Aside0.mk (And.intro T6 (And.intro B6 (And.intro hg6 (show B ≤ w6.heap.size from by have := HBB.out.2.1; have := hbL.size; have := hb1.size; have := hg.size; have := hgr6.size; omega))))
    refine rdy [16] (rm 16 131071 w6 ⟨B6, (blk_cell T6 1).trans rfl, (blk_cell F6 0).trans rfl⟩ ?_ rn (hrun := upd_of (m := .map (some M)) (s := .string n) (v := z1) (by rfl) (by rfl) (by rfl) (by rfl) hup))
    clear hs1 hb1 hk0 hown hg hat nt T2 F2 B2 hm2 hmp hmp1 hup hg6 hgr6 T6 F6 B6 hbL hz1 hg1 hgS hs0 hs1' gv0 tT tF hl2
    refine done_ (by kernel_rfl) ?_
    go_wp2
    have h1 := hA.out.1
    go_roundg (ds.length - (i + 1))
    case measure => omega
    case rel => exact ⟨i + 1, by first | go_num | (rw [E1.out]), ⟨⟨by omega, HE.out.1, ⟨B, HBB.out.1, HE.out.2.2.2, HE.out.2.2.1⟩, HE.out.2.1⟩⟩⟩
  ·have hd : decide ((i : Int) < (ds.length : Int)) = false := by simpa using hi
   go_wp2
   go_ret
   obtain ⟨l1, l2, l3, l5⟩ := hA.out
   have hin : i = ds.length := by omega
   rw [hin] at l3
   exact ⟨⟨T, M, rfl, by have := HMT.out.2; omega, l2, l3⟩, l5⟩
theorem new47_2 {NM : ByteArray → Prop} {G : World → Nat → Nat → Nat → Prop} (hG : GSys NM G) (ds : List DF) (hl : ds.length < 2 ^ 30) (hs : ∀ d ∈ ds, d.name.size ≤ maxLen ∧ NM d.name) (A : Option Addr) (c : Nat) (ok : Nat → Prop) (K V : Option Addr) (m k v mb : Nat) (w : World) (hR : RowAt w ok A ds) (h0 : w.cell? ⟨mb, 2, none⟩ = some (.slice K m k)) (h1 : w.cell? ⟨mb, 3, none⟩ = some (.slice V m v)) :
 Calls Tryz.prog 47 #[.slice A ds.length c, .pointer (some ⟨mb, 2, none⟩), .int .i16 0] w fun e w' => (∃ T M, e = .returned (.pointer (some ⟨T, 0, none⟩)) ∧ w.heap.size ≤ T ∧ w'.heap[T]? = some (.cells #[.slice A ds.length c, .map (some M), .slice K m k, .slice V m v, .int .i16 0] 86 (0, 0)) ∧ ∃ B, w.heap.size ≤ B ∧ B ≤ w'.heap.size ∧ G w' B M ds.length) ∧ Below w.heap.size w w' := by
 have HGS := Aside0.mk hG
 have HH := Aside0.mk (And.intro hR (And.intro hs hl))
 have HM := Aside0.mk (And.intro h0 h1)
 have hmm := make82 ds.length
 clear hR hs hl h0 h1 hG
 go_enter Tryz.func47, Tryz.ntmps47
 go_upto_region 2 with fail
 refine wp_at ?_
 intro w1 hw1
 obtain ⟨M, hM⟩ : ∃ M, M = w.heap.size := ⟨_, rfl⟩
 obtain ⟨T, hT⟩ : ∃ T, T = w.heap.size + 1 := ⟨_, rfl⟩
 have b1 : Below w.heap.size w w1 := by rw [hw1]; repeat (first | exact Below.refl _ _ | apply b1_ | apply b2_ | apply b3_)
 have kT : w1.heap[T]? = some (.cells #[.slice A ds.length c, .map (some M), .slice none 0 0, .slice none 0 0, .int .i16 0] 86 (0, 0)) := by rw [hw1, hM, hT]; exact blk_new_at (by simp)
 have gM : G w1 (w.heap.size + 1) M 0 := by rw [hw1, hM]; exact HGS.out.below (HGS.out.made w) (b1_ (Below.refl _ _) _)
 have HMT := Aside0.mk (And.intro hM hT)
 rw [← hT, ← hM]
 have y0 := pw_cell_below b1 HM.out.1
 have y1 := pw_cell_below b1 HM.out.2
 have z2 := (blk_cell kT 2).trans (show _ = some (.slice none 0 0 : Value) from rfl)
 have z3 := (blk_cell kT 3).trans (show _ = some (.slice none 0 0 : Value) from rfl)
 have f2 := blk_frozen kT 2
 have f3 := blk_frozen kT 3
 have H1 := Aside0.mk (And.intro b1 (And.intro kT gM))
 clear hw1 hM hT b1 kT gM hmm
 go_upto_region 4 with fail
 refine wp_at ?_
 intro w2 hw2
 have b2 : Below w.heap.size w w2 := by rw [hw2]; exact (H1.out.1.setCell (p := ⟨T, 2, none⟩) (by have := HMT.out.2; dsimp only; omega) _).setCell (p := ⟨T, 3, none⟩) (by have := HMT.out.2; dsimp only; omega) _
 have kT2 : w2.heap[T]? = some (.cells #[.slice A ds.length c, .map (some M), .slice K m k, .slice V m v, .int .i16 0] 86 (0, 0)) := by rw [hw2]; exact blk_put_at (blk_put_at H1.out.2.1 rfl) rfl
 have gM2 : G w2 (w.heap.size + 1) M 0 := by
  rw [hw2]
  exact HGS.out.kept H1.out.2.2 (set_grown (set_grown ⟨rfl, rfl, rfl, Nat.le_refl _, fun _ _ _ => rfl⟩ 2 _) 3 _) (fun g e => by cases e; exact ⟨_, _, H1.out.2.1, by decide⟩)
 have H2 := Aside0.mk (And.intro b2 (And.intro kT2 gM2))
 clear hw2 b2 kT2 gM2 y0 y1 z2 z3 f2 f3
 go_wp2
 go_loopg [27] ds.length (fun kq v27 wr => ∃ i : Nat, v27 = .int .i64 (i : Int) ∧ Aside0 (i + kq = ds.length ∧ wr.heap[T]? = some (.cells #[.slice A ds.length c, .map (some M), .slice K m k, .slice V m v, .int .i16 0] 86 (0, 0)) ∧ (∃ B, w.heap.size ≤ B ∧ B ≤ wr.heap.size ∧ G wr B M i) ∧ Below w.heap.size w wr))
 case atStart => exact ⟨0, rfl, ⟨⟨by omega, H2.out.2.1, ⟨_, by omega, blk_lt2 H2.out.2.1 HMT.out.2, H2.out.2.2⟩, H2.out.1⟩⟩⟩
 case round =>
  obtain ⟨i, rfl, hA⟩ := hrel
  by_cases hi : i < ds.length
  ·have hd : decide ((i : Int) < (ds.length : Int)) = true := by simpa using hi
   obtain ⟨hR, hs, hl⟩ := HH.out
   obtain ⟨l1, l2, ⟨B, hB, hB2, l4⟩, l5⟩ := hA.out
   obtain ⟨ad, rfl, hrow⟩ := hR.below l5 (by omega)
   obtain ⟨cs, hf, hcell⟩ := hrow i hi
   have hsz := hs _ (List.getElem_mem hi)
   generalize hdi : ds[i] = di at hf hsz
   obtain ⟨n, dt, b⟩ := di
   obtain ⟨x, rfl, hx⟩ := hf
   obtain ⟨tq, tz, rfl⟩ := hx.form
   have x0 : wr.cell? (ad.add (i * 5)) = some (.string n) := hcell 0 _ rfl
   have x1 : wr.cell? ⟨(ad.add (i * 5)).block, (ad.add (i * 5)).off + 1, none⟩ = some (.iface tq (.pointer (some tz))) := by rw [← add_field _ _ 1 (by omega)]; exact hcell 1 _ rfl
   have x2 : wr.cell? ⟨(ad.add (i * 5)).block, (ad.add (i * 5)).off + 2, none⟩ = some (.bool b) := by rw [← add_field _ _ 2 (by omega)]; exact hcell 2 _ rfl
   have x3 : wr.cell? ⟨(ad.add (i * 5)).block, (ad.add (i * 5)).off + 3, none⟩ = some (.slice none 0 0) := by rw [← add_field _ _ 3 (by omega)]; exact hcell 3 _ rfl
   have x4 : wr.cell? ⟨(ad.add (i * 5)).block, (ad.add (i * 5)).off + 4, none⟩ = some (.slice none 0 0) := by rw [← add_field _ _ 4 (by omega)]; exact hcell 4 _ rfl
   have e1 : wrap64 ((i : Int) + 1) = ((i + 1 : Nat) : Int) := by rw [w64_id _ (by omega) (by omega)]; omega
   have E1 := Aside0.mk e1
   have HI := Aside0.mk (show i < 2 ^ 30 from by omega)
   have HN := Aside0.mk (show n.size ≤ maxLen ∧ NM n from hsz)
   have HBB := Aside0.mk (And.intro hB (And.intro hB2 (And.intro l4 (show w.heap.size ≤ M from by have := HMT.out.1; omega))))
   clear hR hs hl l1 l2 hB hB2 l4 l5 hrow hcell hsz hdi hx e1
   go_upto_region 9 with fail
   refine wp_at ?_
   intro w3 hw3
   have b3 : Below wr.heap.size wr w3 := by rw [hw3]; repeat (first | exact Below.refl _ _ | apply b1_ | apply b2_ | apply b3_)
   have kF : w3.heap[wr.heap.size]? = some (.cells #[.string n, .iface tq (.pointer (some tz)), .bool b, .slice none 0 0, .slice none 0 0] 61 (0, 0)) := by rw [hw3]; exact blk_new_at rfl
   clear hw3 x0 x1 x2 x3 x4
   have kT3 := blk_below hA.out.2.1 b3
   have bw := below_step hA.out.2.2.2 b3
   have yT := (blk_cell kT3 1).trans (show _ = some (.map (some M) : Value) from rfl)
   have yF := (blk_cell kF 0).trans (show _ = some (.string n : Value) from rfl)
   have H3 := Aside0.mk (And.intro kT3 (And.intro kF (And.intro b3 (HGS.out.below HBB.out.2.2.1 b3))))
   refine sc 17 (fun w' => Below w.heap.size w w' ∧ w'.cell? ⟨T, 1, none⟩ = some (.map (some M)) ∧ w'.cell? ⟨wr.heap.size, 0, none⟩ = some (.string n)) (fun hk0 v0 hs0 hb => ?_)
   have tT := blk_below H3.out.1 hb
   have tF := blk_below H3.out.2.1 hb
   have gv0 := HGS.out.below H3.out.2.2.2 hb
   replace HBB := Aside0.mk (And.intro HBB.out.1 (And.intro (show B ≤ v0.heap.size from by have := HBB.out.2.1; have := H3.out.2.2.1.size; have := hb.size; omega) (And.intro True.intro HBB.out.2.2.2)))
   clear kT3 kF b3 bw yT yF hb
   refine pu 0 36 1 ?_
   refine pu 1 37 3 ?_
   refine pu 2 38 7 ?_
   refine ta 3 39 15 ?_
   refine pu 4 40 31 ?_
   refine ta 5 41 63 ?_
   refine pu 6 42 127 ?_
   refine pu 7 43 255 ?_
   refine pu 8 44 511 ?_
   refine ta 9 45 1023 ?_
   refine pu 10 46 2047 ?_
   refine ta 11 47 4095 ?_
   refine pu 13 49 12287 ?_
   obtain ⟨lv0, zs0, hl20, ho0, hzl0, hback0⟩ := HGS.out.look gv0 (by have := HI.out; unfold maxLen; omega) n HN.out.2 HN.out.1
   refine rdy [12, 14] (rv 12 48 16383 lv0 hs0 (no 48 ?_) (rl 14 50 28671 (.slice (some ⟨v0.heap.size, 0, none⟩) 1 1) (.cells #[.int .i64 (i : Int)] 3 (0, 0)) hk0 hs0 (fun v1 hz1 hg1 hs1 hb1 => no 50 ?_) rn) (hrun := look_of (m := .map (some M)) (s := .string n) (by rfl) (by rfl) (by rfl) hl20))
   ·refine rdy [14] (rl 14 50 32767 (.slice (some ⟨v0.heap.size, 0, none⟩) 1 1) (.cells #[.int .i64 (i : Int)] 3 (0, 0)) hk0 hs0 (fun v1 hz1 hg1 hs1 hb1 => no 50 ?_) rn)
    have hbL := Below.refl v0.heap.size v0
    obtain ⟨lv, hlv⟩ : ∃ lv, lv = lv0 := ⟨_, rfl⟩
    subst hlv
    have ho := ho0
    have hzl := hzl0
    have hback := hback0
    obtain ⟨zs, hzs⟩ : ∃ zs, zs = zs0 := ⟨_, rfl⟩
    subst hzs
    clear ho0 hzl0 hback0
    have HQ := Aside0.mk (And.intro ho (And.intro hzl hback))
    have FX := Aside0.mk (And.intro (blk_below (blk_below tT hbL) hb1) (And.intro (blk_below (blk_below tF hbL) hb1) hb1))
    obtain ⟨es, cl, hmp⟩ := HGS.out.map (HGS.out.below gv0 hbL)
    have hmp1 := blk_below hmp hb1
    clear ho hzl hback
    refine rdy [15] (rax 15 51 65535 B (.tmp 48) (.tmp 50) 26 3 (.int .i64 0) 8 lv zs.length (zs.map (Value.int .i64)) ⟨v0.heap.size, 0, none⟩ (.int .i64 (i : Int)) (own_below_ HQ.out.1.1 hb1) ((blk_cell hg1 0).trans rfl) rfl (by have := HBB.out.2; have := hbL.size; have := hb1.size; omega) (by have := HQ.out.2.1; have := HI.out; omega) (fun z1 v2 hown hg hat => ⟨?_, no 51 ?_⟩) rn Tryz.underlying26 info3 rfl (by decide))
    ·have nt : ∀ q : Nat, q ≠ 3 → ∀ g cs, v1.heap[g]? = some (.cells cs q (0, 0)) → some g ≠ lv.ownBlock := fun q hq g cs hc he => by
      obtain ⟨c3, hc3⟩ := own_typed (own_below_ HQ.out.1.1 hb1) g he.symm
      rw [hc] at hc3
      injection hc3 with hc3
      injection hc3 with _ hc3
      exact hq hc3
     exact ⟨hs1.1.grown hg hs1.1.size (fun q hq => Nat.le_trans HBB.out.1 (own_base HQ.out.1.1 q hq)), (blk_cell (grown_blk hg FX.out.1 (nt 86 (by decide) _ _ FX.out.1)) 1).trans rfl, (blk_cell (grown_blk hg FX.out.2.1 (nt 61 (by decide) _ _ FX.out.2.1)) 0).trans rfl⟩
    have nt : ∀ q : Nat, q ≠ 3 → ∀ g cs, v1.heap[g]? = some (.cells cs q (0, 0)) → some g ≠ lv.ownBlock := fun q hq g cs hc he => by
     obtain ⟨c3, hc3⟩ := own_typed (own_below_ HQ.out.1.1 hb1) g he.symm
     rw [hc] at hc3
     injection hc3 with hc3
     injection hc3 with _ hc3
     exact hq hc3
    have T2 := grown_blk hg FX.out.1 (nt 86 (by decide) _ _ FX.out.1)
    have F2 := grown_blk hg FX.out.2.1 (nt 61 (by decide) _ _ FX.out.2.1)
    have B2 := hs1.1.grown hg hs1.1.size (fun q hq => Nat.le_trans HBB.out.1 (own_base HQ.out.1.1 q hq))
    have hm2 := grown_blk hg hmp1 (fun he => by
     obtain ⟨c3, hc3⟩ := own_typed (own_below_ HQ.out.1.1 hb1) _ he.symm
     rw [hmp1] at hc3
     cases hc3)
    obtain ⟨w6, hup, hg6, hgr6⟩ := HQ.out.2.2 v2 z1 (World.grownBy.trans (grown_of_below hb1 _) hg) (HQ.out.1.appended (by simpa using hown) (by have := HI.out; simp [Lit.wf, IntKind.min, IntKind.max, IntKind.bits, IntKind.signed]; omega)) (by rcases hat with h | h; exact .inl h; exact .inr ⟨_, h, hb1.size⟩)
    have T6 := grown_blk hgr6 T2 (fun he => by cases he; rw [T2] at hm2; cases hm2)
    have F6 := grown_blk hgr6 F2 (fun he => by cases he; rw [F2] at hm2; cases hm2)
    have B6 := B2.grown hgr6 B2.size (fun q hq => by cases hq; exact HBB.out.2.2.2)
    have HE := Aside0.mk (And.intro T6 (And.intro B6 (And.intro hg6 (show B ≤ w6.heap.size from by have := HBB.out.2.1; have := hbL.size; have := hb1.size; have := hg.size; have := hgr6.size; omega))))
    refine rdy [16] (rm 16 131071 w6 ⟨B6, (blk_cell T6 1).trans rfl, (blk_cell F6 0).trans rfl⟩ ?_ rn (hrun := upd_of (m := .map (some M)) (s := .string n) (v := z1) (by rfl) (by rfl) (by rfl) (by rfl) hup))
    clear hs1 hb1 hk0 hown hg hat nt T2 F2 B2 hm2 hmp hmp1 hup hg6 hgr6 T6 F6 B6 hbL hz1 hg1 hs0 gv0 tT tF hl20
    refine done_ (by kernel_rfl) ?_
    go_wp2
    have h1 := hA.out.1
    go_roundg (ds.length - (i + 1))
    case measure => omega
    case rel => exact ⟨i + 1, by first | go_num | (rw [E1.out]), ⟨⟨by omega, HE.out.1, ⟨B, HBB.out.1, HE.out.2.2.2, HE.out.2.2.1⟩, HE.out.2.1⟩⟩⟩
   ·obtain ⟨lv, zs, hl2, ho, hzl, hback⟩ := HGS.out.look (HGS.out.below gv0 hb1) (by have := HI.out; unfold maxLen; omega) n HN.out.2 HN.out.1
    have hbL := hb1
    have hs1' := hs1
    have hgS := hg1
    clear hb1 hl20 ho0 hzl0 hback0
    refine rdy [12] (rv 12 48 32767 lv hs1 (no 48 ?_) rn (hrun := look_of (m := .map (some M)) (s := .string n) (by rfl) (by rfl) (by rfl) hl2))
    have hb1 := Below.refl v1.heap.size v1
    have HQ := Aside0.mk (And.intro ho (And.intro hzl hback))
    have FX := Aside0.mk (And.intro (blk_below (blk_below tT hbL) hb1) (And.intro (blk_below (blk_below tF hbL) hb1) hb1))
    obtain ⟨es, cl, hmp⟩ := HGS.out.map (HGS.out.below gv0 hbL)
    have hmp1 := blk_below hmp hb1
    clear ho hzl hback
    refine rdy [15] (rax 15 51 65535 B (.tmp 48) (.tmp 50) 26 3 (.int .i64 0) 8 lv zs.length (zs.map (Value.int .i64)) ⟨v0.heap.size, 0, none⟩ (.int .i64 (i : Int)) (own_below_ HQ.out.1.1 hb1) ((blk_cell hgS 0).trans rfl) rfl (by have := HBB.out.2; have := hbL.size; have := hb1.size; omega) (by have := HQ.out.2.1; have := HI.out; omega) (fun z1 v2 hown hg hat => ⟨?_, no 51 ?_⟩) rn Tryz.underlying26 info3 rfl (by decide))
    ·have nt : ∀ q : Nat, q ≠ 3 → ∀ g cs, v1.heap[g]? = some (.cells cs q (0, 0)) → some g ≠ lv.ownBlock := fun q hq g cs hc he => by
      obtain ⟨c3, hc3⟩ := own_typed (own_below_ HQ.out.1.1 hb1) g he.symm
      rw [hc] at hc3
      injection hc3 with hc3
      injection hc3 with _ hc3
      exact hq hc3
     exact ⟨hs1.1.grown hg hs1.1.size (fun q hq => Nat.le_trans HBB.out.1 (own_base HQ.out.1.1 q hq)), (blk_cell (grown_blk hg FX.out.1 (nt 86 (by decide) _ _ FX.out.1)) 1).trans rfl, (blk_cell (grown_blk hg FX.out.2.1 (nt 61 (by decide) _ _ FX.out.2.1)) 0).trans rfl⟩
    have nt : ∀ q : Nat, q ≠ 3 → ∀ g cs, v1.heap[g]? = some (.cells cs q (0, 0)) → some g ≠ lv.ownBlock := fun q hq g cs hc he => by
     obtain ⟨c3, hc3⟩ := own_typed (own_below_ HQ.out.1.1 hb1) g he.symm
     rw [hc] at hc3
     injection hc3 with hc3
     injection hc3 with _ hc3
     exact hq hc3
    have T2 := grown_blk hg FX.out.1 (nt 86 (by decide) _ _ FX.out.1)
    have F2 := grown_blk hg FX.out.2.1 (nt 61 (by decide) _ _ FX.out.2.1)
    have B2 := hs1.1.grown hg hs1.1.size (fun q hq => Nat.le_trans HBB.out.1 (own_base HQ.out.1.1 q hq))
    have hm2 := grown_blk hg hmp1 (fun he => by
     obtain ⟨c3, hc3⟩ := own_typed (own_below_ HQ.out.1.1 hb1) _ he.symm
     rw [hmp1] at hc3
     cases hc3)
    obtain ⟨w6, hup, hg6, hgr6⟩ := HQ.out.2.2 v2 z1 (World.grownBy.trans (grown_of_below hb1 _) hg) (HQ.out.1.appended (by simpa using hown) (by have := HI.out; simp [Lit.wf, IntKind.min, IntKind.max, IntKind.bits, IntKind.signed]; omega)) (by rcases hat with h | h; exact .inl h; exact .inr ⟨_, h, hb1.size⟩)
    have T6 := grown_blk hgr6 T2 (fun he => by cases he; rw [T2] at hm2; cases hm2)
    have F6 := grown_blk hgr6 F2 (fun he => by cases he; rw [F2] at hm2; cases hm2)
    have B6 := B2.grown hgr6 B2.size (fun q hq => by cases hq; exact HBB.out.2.2.2)
    have HE := Aside0.mk (And.intro T6 (And.intro B6 (And.intro hg6 (show B ≤ w6.heap.size from by have := HBB.out.2.1; have := hbL.size; have := hb1.size; have := hg.size; have := hgr6.size; omega))))
    refine rdy [16] (rm 16 131071 w6 ⟨B6, (blk_cell T6 1).trans rfl, (blk_cell F6 0).trans rfl⟩ ?_ rn (hrun := upd_of (m := .map (some M)) (s := .string n) (v := z1) (by rfl) (by rfl) (by rfl) (by rfl) hup))
    clear hs1 hb1 hk0 hown hg hat nt T2 F2 B2 hm2 hmp hmp1 hup hg6 hgr6 T6 F6 B6 hbL hz1 hg1 hgS hs0 hs1' gv0 tT tF hl2
    refine done_ (by kernel_rfl) ?_
    go_wp2
    have h1 := hA.out.1
    go_roundg (ds.length - (i + 1))
    case measure => omega
    case rel => exact ⟨i + 1, by first | go_num | (rw [E1.out]), ⟨⟨by omega, HE.out.1, ⟨B, HBB.out.1, HE.out.2.2.2, HE.out.2.2.1⟩, HE.out.2.1⟩⟩⟩
  ·have hd : decide ((i : Int) < (ds.length : Int)) = false := by simpa using hi
   go_wp2
   go_ret
   obtain ⟨l1, l2, l3, l5⟩ := hA.out
   have hin : i = ds.length := by omega
   rw [hin] at l3
   exact ⟨⟨T, M, rfl, by have := HMT.out.2; omega, l2, l3⟩, l5⟩
def SchAt (G : World → Nat → Nat → Nat → Prop) (w : World) (base : Nat) (T : Nat) (ds : List DF) (n : Nat) : Prop := base ≤ T ∧ ∃ F, ∃ arr : Array Value, ∃ M K k V v ok, w.heap[T]? = some (.cells #[.slice (some ⟨F, 0, none⟩) ds.length ds.length, .map (some M), .slice K n k, .slice V n v, .int .i16 0] 86 (0, 0)) ∧ w.heap[F]? = some (.cells arr 61 (0, 0)) ∧ arr.size = ds.length * 5 ∧ DFsIn w ok ds arr.toList ∧ StrAt w K n ∧ StrAt w V n ∧ ∃ B, G w B M ds.length
theorem SchAt.below {NM : ByteArray → Prop} {G : World → Nat → Nat → Nat → Prop} (hG : GSys NM G) {w w' : World} {base T n : Nat} {ds : List DF} (h : SchAt G w base T ds n) (hb : Below w.heap.size w w') : SchAt G w' base T ds n := by
 obtain ⟨h0, F, arr, M, K, k, V, v, ok, h1, h2, h3, h4, h5, h6, B, h7⟩ := h
 exact ⟨h0, F, arr, M, K, k, V, v, ok, blk_below h1 hb, blk_below h2 hb, h3, DFsIn.step (fun k q cells hk hl _ hc => ⟨(hb.block k hl).trans hc, hk⟩) h4, h5.below hb, h6.below hb, B, hG.below h7 hb⟩
theorem SchAt.lower {G : World → Nat → Nat → Nat → Prop} {w : World} {base base' T n : Nat} {ds : List DF} (h : SchAt G w base T ds n) (hb : base' ≤ base) : SchAt G w base' T ds n := ⟨Nat.le_trans hb h.1, h.2⟩
theorem new78 {NM : ByteArray → Prop} {G : World → Nat → Nat → Nat → Prop} (hG : GSys NM G) (ds : List DF) (hl : ds.length ≤ 2000) (hs : ∀ d ∈ ds, d.name.size ≤ maxLen ∧ NM d.name) (A : Option Addr) (c : Nat) (ok : Nat → Prop) (K V : Option Addr) (m k v mb : Nat) (hm : m ≤ 1000) (w : World) (hR : RowAt w ok A ds) (h0 : w.cell? ⟨mb, 0, none⟩ = some (.slice K m k)) (h1 : w.cell? ⟨mb, 1, none⟩ = some (.slice V m v)) (hK : StrAt w K m) (hV : StrAt w V m) :
 Calls Tryz.prog 78 #[.slice A ds.length c, .pointer (some ⟨mb, 0, none⟩), .int .i16 0] w fun e w' => (∃ T, e = .returned (.pointer (some ⟨T, 0, none⟩)) ∧ SchAt G w' w.heap.size T ds m) ∧ Below w.heap.size w w' := by
 have HH := Aside0.mk (And.intro hR (And.intro hs (And.intro hl (And.intro hm (And.intro hK hV)))))
 clear hR hs hm hK hV
 obtain ⟨n, hn⟩ : ∃ n, n = ds.length := ⟨_, rfl⟩
 rw [← hn]
 have hmk := make61 n (by omega)
 have HNN := Aside0.mk hn
 clear hl hn
 go_enter Tryz.func78, Tryz.ntmps78
 go_wp2_with (go_at_call 97; fail)
 refine (clone97n m K V k v HH.out.2.2.2.1 w HH.out.2.2.2.2.1 HH.out.2.2.2.2.2).mono ?_
 rintro e w1 ⟨⟨K1, k1, V1, v1, rfl, hK1, hV1⟩, hb1⟩
 have HK := Aside0.mk (And.intro hK1 (And.intro hV1 hb1))
 clear hK1 hV1 hb1 h0 h1
 go_upto_region 4 with fail
 refine wp_at ?_
 intro w2 hw2
 have b2 : Below w1.heap.size w1 w2 := by rw [hw2]; repeat (first | exact Below.refl _ _ | apply b1_ | apply b2_ | apply b3_)
 have kM : w2.heap[w1.heap.size]? = some (.cells #[.slice K1 m k1, .slice V1 m v1] 59 (0, 0)) := by rw [hw2]; exact blk_new_at rfl
 clear hw2
 have H2 := Aside0.mk (And.intro b2 kM)
 clear b2 kM
 go_upto_region 6 with fail
 clear hmk
 refine wp_at ?_
 intro w3 hw3
 have b3 : Below w2.heap.size w2 w3 := by rw [hw3]; repeat (first | exact Below.refl _ _ | apply b1_ | apply b2_ | apply b3_)
 have k3 : w3.heap[w2.heap.size]? = some (.cells (madeCells #[.string ⟨#[]⟩, .nilIface, .bool false, .slice none 0 0, .slice none 0 0] (n * 5)) 61 (0, 0)) := by rw [hw3]; exact blk_new _ _
 clear hw3
 have bw := below_step HK.out.2.2 H2.out.1
 obtain ⟨cs, q1, q2, q3, q4⟩ := row_cells (HH.out.1.below bw)
 have hn := HNN.out
 rw [← hn] at q1 q4
 have hcp := copyAt Tryz.underlying79 info61s w3 w2.heap.size 0 n n c A _ 61 cs k3 q1 (fun hp => by obtain ⟨a, e, hh⟩ := q4 hp; exact ⟨a, e, fun j v hv => pw_cell_below b3 (hh j v hv)⟩) (by rw [size_madeCells]; omega) q3
 have hnil : (madeCells #[.string ⟨#[]⟩, .nilIface, .bool false, .slice none 0 0, .slice none 0 0] (n * 5)).toList.drop (0 + cs.length) = [] := List.drop_eq_nil_of_le (by rw [Array.length_toList, size_madeCells]; omega)
 rw [hnil, List.append_nil, List.take_zero, List.nil_append] at hcp
 obtain ⟨w4, hw4⟩ : ∃ w4, w4 = w3.setRow w2.heap.size cs.toArray := ⟨_, rfl⟩
 rw [← hw4] at hcp
 have k4 : w4.heap[w2.heap.size]? = some (.cells cs.toArray 61 (0, 0)) := by rw [hw4]; exact setRow_heap _ _ _ _ _ _ k3
 have b4 : Below w2.heap.size w2 w4 := by rw [hw4]; exact below_setRow b3 (Nat.le_refl _) _
 have bw4 := below_step (below_step HK.out.2.2 H2.out.1) b4
 have hD : DFsIn w4 ok ds cs := DFsIn.step (fun k q cells hk hl _ hc => ⟨(b4.block k hl).trans hc, hk⟩) q2
 have hR4 : RowAt w4 ok (some ⟨w2.heap.size, 0, none⟩) ds := row_of k4 (by simpa using hD)
 have kM4 := blk_below (blk_below H2.out.2 b4) (Below.refl _ _)
 have H4 := Aside0.mk (And.intro bw4 (And.intro hR4 (And.intro kM4 (And.intro b4 (And.intro hn (And.intro k4 (And.intro q1 hD)))))))
 clear b3 k3 bw q1 q2 q3 q4 hnil hw4 k4 b4 bw4 hD hR4 kM4 hn
 go_wp2_with (go_at_call 47; fail)
 have hcall := new47_0 hG ds (by have := HH.out.2.2.1; omega) HH.out.2.1 (some ⟨w2.heap.size, 0, none⟩) ds.length ok K1 V1 m k1 v1 w1.heap.size w4 H4.out.2.1 ((blk_cell H4.out.2.2.1 0).trans rfl) ((blk_cell H4.out.2.2.1 1).trans rfl)
 rw [← HNN.out] at hcall
 refine hcall.mono ?_
 rintro e w5 ⟨⟨T, M, rfl, hT, hk, BB, _, _, hBB⟩, hb⟩
 have bw5 := below_step H4.out.1 hb
 have HE := Aside0.mk (And.intro bw5 (show SchAt G w5 w.heap.size T ds m from by
  have h1 := below_step (below_step H2.out.1 H4.out.2.2.2.1) hb
  refine ⟨Nat.le_trans H4.out.1.size hT, w2.heap.size, cs.toArray, M, K1, k1, V1, v1, ok, ?_, blk_below H4.out.2.2.2.2.2.1 hb, by have := H4.out.2.2.2.2.2.2.1; have := HNN.out; simp; omega, by simpa using DFsIn.step (fun k q cells hk hl _ hc => ⟨(hb.block k hl).trans hc, hk⟩) H4.out.2.2.2.2.2.2.2, HK.out.1.below h1, HK.out.2.1.below h1, BB, HNN.out ▸ hBB⟩
  rw [hk, HNN.out]))
 clear hcall hT hk hb bw5 hcp hBB
 go_wp2
 go_ret
 exact ⟨⟨T, rfl, HE.out.2⟩, HE.out.1⟩
theorem new44 {NM : ByteArray → Prop} {G : World → Nat → Nat → Nat → Prop} (hG : GSys NM G) (ds : List DF) (hl : ds.length ≤ 2000) (hs : ∀ d ∈ ds, d.name.size ≤ maxLen ∧ NM d.name) (A : Option Addr) (c : Nat) (ok : Nat → Prop) (K V : Option Addr) (m k v mb : Nat) (hm : m ≤ 1000) (w : World) (hR : RowAt w ok A ds) (h0 : w.cell? ⟨mb, 0, none⟩ = some (.slice K m k)) (h1 : w.cell? ⟨mb, 1, none⟩ = some (.slice V m v)) (hK : StrAt w K m) (hV : StrAt w V m) :
 Calls Tryz.prog 44 #[.slice A ds.length c, .pointer (some ⟨mb, 0, none⟩)] w fun e w' => (∃ T, e = .returned (.pointer (some ⟨T, 0, none⟩)) ∧ SchAt G w' w.heap.size T ds m) ∧ Below w.heap.size w w' := by
 have HH := Aside0.mk (new78 hG ds hl hs A c ok K V m k v mb hm w hR h0 h1 hK hV)
 clear hl hs hm hR h0 h1 hK hV
 go_enter Tryz.func44, Tryz.ntmps44
 go_wp2_with (go_at_call 78; fail)
 refine HH.out.mono ?_
 rintro e w2 ⟨⟨T, rfl, hT⟩, hb⟩
 have HE := Aside0.mk (And.intro hb hT)
 clear hb hT
 go_wp2
 go_ret
 exact ⟨⟨T, rfl, HE.out.2⟩, HE.out.1⟩
theorem sch24 {NM : ByteArray → Prop} {G : World → Nat → Nat → Nat → Prop} (hG : GSys NM G) (fs : List S30) (ds : List DF) (h : All2 MakesF fs ds) (hl : fs.length ≤ 1000) (hs : ∀ d ∈ ds, d.name.size ≤ maxLen ∧ NM d.name) (ms : List S73) (hm : ms.length ≤ 1000) (A9 A12 : Option Addr) (c9 c12 : Nat) (w : World) (g9 : Kd.C k30 w A9 fs.length fs) (g12 : Kd.C k73 w A12 ms.length ms) :
 Calls Tryz.prog 24 #[.agg #[.slice A9 fs.length c9, .slice A12 ms.length c12]] w fun e w' => (∃ T, e = .returned (.pointer (some ⟨T, 0, none⟩)) ∧ SchAt G w' w.heap.size T ds ms.length) ∧ Below w.heap.size w w' := by
 have hlen := h.length
 have HH := Aside0.mk (And.intro h (And.intro hl (And.intro hs (And.intro hm (And.intro g9 (And.intro g12 hlen))))))
 clear h hl hs hm g9 g12 hlen
 go_enter Tryz.func24, Tryz.ntmps24
 go_wp2_with (go_at_call 43; fail)
 refine calls_at ?_
 intro w1 hw1
 have b1 : Below w.heap.size w w1 := by rw [hw1]; repeat (first | exact Below.refl _ _ | apply b1_ | apply b2_ | apply b3_)
 have k1 : w1.heap[w.heap.size]? = some (.cells #[.slice A9 fs.length c9, .slice A12 ms.length c12] 25 (0, 0)) := by rw [hw1]; exact blk_new_at rfl
 clear hw1
 refine (meta43n ms A12 c12 w1 (Kd.C_below HH.out.2.2.2.2.2.1 b1) HH.out.2.2.2.1).mono ?_
 rintro e w2 ⟨⟨K, k, V, v, rfl, hK, hV⟩, hb2⟩
 have H2 := Aside0.mk (And.intro (below_step b1 hb2) (And.intro (blk_below k1 hb2) (And.intro hK hV)))
 clear b1 k1 hb2 hK hV
 go_upto_region 2 with fail
 refine wp_at ?_
 intro w3 hw3
 have b3 : Below w2.heap.size w2 w3 := by rw [hw3]; repeat (first | exact Below.refl _ _ | apply b1_ | apply b2_ | apply b3_)
 have kM : w3.heap[w2.heap.size]? = some (.cells #[.slice K ms.length k, .slice V ms.length v] 59 (0, 0)) := by rw [hw3]; exact blk_new_at rfl
 clear hw3
 have kX := blk_below H2.out.2.1 b3
 have y0 := (blk_cell kX 0).trans (show _ = some (.slice A9 fs.length c9 : Value) from rfl)
 have bw3 := below_step H2.out.1 b3
 have H3 := Aside0.mk (And.intro bw3 (And.intro kM b3))
 clear b3 kM kX bw3
 go_wp2_with (go_at_call 45; fail)
 refine (fields45 fs ds HH.out.1 A9 c9 w3 (Kd.C_below HH.out.2.2.2.2.1 H3.out.1) (by have := HH.out.2.1; omega)).mono ?_
 rintro e w4 ⟨u, rfl, hR, hb4⟩
 obtain ⟨A, c, rfl, hlc, _, hrow⟩ := row_of_R hR
 have hR4 : RowAt w4 (fun k => w3.heap.size ≤ k) A ds := fun hn => by
  obtain ⟨b, arr, rfl, hb1, hb2, hb3, hb4⟩ := hrow hn
  exact rowAt_of hb2 hb3 hb4 hn
 have kM4 := blk_below H3.out.2.1 hb4
 have b24 := below_step H3.out.2.2 hb4
 have hcall := new44 hG ds (by have := HH.out.2.1; have := HH.out.2.2.2.2.2.2; omega) HH.out.2.2.1 A c _ K V ms.length k v w2.heap.size HH.out.2.2.2.1 w4 hR4 ((blk_cell kM4 0).trans rfl) ((blk_cell kM4 1).trans rfl) (H2.out.2.2.1.below b24) (H2.out.2.2.2.below b24)
 have H4 := Aside0.mk (And.intro (below_step H3.out.1 hb4) hcall)
 clear hR hlc hrow hR4 kM4 b24 hcall hb4 y0
 go_wp2_with (go_at_call 44; fail)
 refine H4.out.2.mono ?_
 rintro e w5 ⟨⟨T, rfl, hT⟩, hb5⟩
 have HE := Aside0.mk (And.intro (below_step H4.out.1 hb5) (hT.lower H4.out.1.size))
 clear hT hb5
 go_wp2
 go_ret
 exact ⟨⟨T, rfl, HE.out.2⟩, HE.out.1⟩
end Go.Proofs.YteebgnhhjlgnjaaGreatDoor.V
