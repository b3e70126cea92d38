/- impl.typeBack, whole. -/
import Derived.Test.YteebgnhhjlgnjaaGreatDoorB5
namespace Go.Proofs.YteebgnhhjlgnjaaGreatDoor.V
open Go.RowKit Go.Proofs.YteebgnhhjlgnjaaGreatDoorW.PrintWords Go.Proofs.YteebgnhhjlgnjaaGreatDoorW.PrintLast Go.Proofs.YteebgnhhjlgnjaaGreatDoorW.PrintMore
set_option maxHeartbeats 40000000
set_option maxRecDepth 100000
set_option linter.unusedVariables false
set_option linter.unusedSimpArgs false
attribute [local go_sem] n_101 y_101 n_104 y_104 n_106 y_106 n_108 y_108 n_110 y_110 n_214 y_214 n_217 y_217 n_219 y_219 n_221 y_221 n_112 y_112 n_114 y_114 n_116 y_116 n_120 y_120 n_122 y_122 n_125 y_125 n_127 y_127 n_129 y_129 n_131 y_131 n_133 y_133 n_135 y_135 n_137 y_137 n_139 y_139 n_141 y_141 n_143 y_143 n_145 y_145
theorem bt0 {W : World} {ok : Nat → Prop} (k wd : Int) (s : Bool) (u p q : Int) (z : ByteArray) (fl : Bool) : BTIn W ok ⟨k, wd, s, u, p, q, z, fl, [], []⟩ [.int .i64 k, .int .i64 wd, .bool s, .int .i64 u, .int .i64 p, .int .i64 q, .string z, .bool fl, .slice none 0 0, .slice none 0 0] :=
 ⟨none, 0, none, 0, rfl, Nat.le_refl _, by simp, Nat.le_refl _, by simp, fun h => absurd h (by simp), fun h => absurd h (by simp)⟩
theorem btF {W : World} {base : Nat} {A : Option Addr} {c : Nat} {fs : List S30} (k wd : Int) (s : Bool) (u p q : Int) (z : ByteArray) (fl : Bool) (h : RowB W base A c fs) : BTIn W (fun k => base ≤ k) ⟨k, wd, s, u, p, q, z, fl, [], fs⟩ [.int .i64 k, .int .i64 wd, .bool s, .int .i64 u, .int .i64 p, .int .i64 q, .string z, .bool fl, .slice none 0 0, .slice A fs.length c] :=
 ⟨none, 0, A, c, rfl, Nat.le_refl _, by simp, h.1, h.2.1, fun h => absurd h (by simp), h.2.2⟩
theorem btU {W : World} {base : Nat} {A A' : Option Addr} {c c' : Nat} {fs : List S30} {ids : List Int} (k wd : Int) (s : Bool) (u p q : Int) (z : ByteArray) (fl : Bool) (hi : RowI W base A' c' ids) (h : RowB W base A c fs) : BTIn W (fun k => base ≤ k) ⟨k, wd, s, u, p, q, z, fl, ids, fs⟩ [.int .i64 k, .int .i64 wd, .bool s, .int .i64 u, .int .i64 p, .int .i64 q, .string z, .bool fl, (.slice A' ids.length c'), .slice A fs.length c] :=
 ⟨A', c', A, c, rfl, hi.1, hi.2.1, h.1, h.2.1, hi.2.2, h.2.2⟩
theorem tb_pass (q : TypeId) (p : Value) (T : S28) (hq : q ∉ [101, 104, 106, 108, 110, 214, 217, 219, 221, 112, 114, 116, 120, 122, 125, 127, 129, 131, 133, 135, 137, 139, 141, 143, 145]) (w : World) (hc : ∀ w1, Below w.heap.size w w1 → Calls Tryz.prog 98 #[.iface q p] w1 fun e w' => (∃ cs : List Value, e = .returned (.agg cs.toArray) ∧ BTIn w' (fun k => w1.heap.size ≤ k) T cs) ∧ Below w1.heap.size w1 w') :
 Calls Tryz.prog 79 #[.iface q p] w fun e w' => (∃ cs : List Value, e = .returned (.agg cs.toArray) ∧ BTIn w' (fun k => w.heap.size ≤ k) T cs) ∧ Below w.heap.size w w' := by
 simp only [List.mem_cons, List.not_mem_nil, or_false, not_or] at hq
 obtain ⟨h101, h104, h106, h108, h110, h214, h217, h219, h221, h112, h114, h116, h120, h122, h125, h127, h129, h131, h133, h135, h137, h139, h141, h143, h145⟩ := hq
 obtain ⟨t0, t1, t2, t3, t4, t5, t6, t7, t8, t9⟩ := T
 have HC := Aside0.mk hc
 clear hc
 go_enter Tryz.func79, Tryz.ntmps79
 go_wp2_with (go_at_call 98; fail)
 refine calls_at ?_
 intro w1 hw1
 have b1 : Below w.heap.size w w1 := by rw [hw1]; repeat (first | exact Below.refl _ _ | apply b1_ | apply b2_ | apply b3_)
 have kB : w1.heap[w.heap.size]? = some (.cells #[.int .i64 0, .int .i64 0, .bool false, .int .i64 0, .int .i64 0, .int .i64 0, .string ⟨#[]⟩, .bool false, .slice none 0 0, .slice none 0 0] 28 (0, 0)) := by rw [hw1]; exact blk_new _ _
 clear hw1
 refine (HC.out w1 b1).mono ?_
 rintro e w2 ⟨⟨cs, rfl, hT⟩, hb⟩
 have HT := Aside0.mk hT
 obtain ⟨A, c, A', c', rfl, _⟩ := hT
 have HK := Aside0.mk (blk_below kB hb)
 have HW := Aside0.mk (And.intro (below_step b1 hb) (blk_lt kB))
 clear b1 kB hb h101 h104 h106 h108 h110 h214 h217 h219 h221 h112 h114 h116 h120 h122 h125 h127 h129 h131 h133 h135 h137 h139 h141 h143 h145
 obtain ⟨z0, z1, z2, z3, z4, z5, z6, z7, z8, z9⟩ := cb10_ HK.out
 obtain ⟨f0, f1, f2, f3, f4, f5, f6, f7, f8, f9⟩ := fb10_ HK.out
 go_wp2
 have hp := put10_row HK.out (.int .i64 t0) (.int .i64 t1) (.bool t2) (.int .i64 t3) (.int .i64 t4) (.int .i64 t5) (.string t6) (.bool t7) (.slice A t8.length c) (.slice A' t9.length c')
 have hq := put10_below (v0 := .int .i64 t0) (v1 := .int .i64 t1) (v2 := .bool t2) (v3 := .int .i64 t3) (v4 := .int .i64 t4) (v5 := .int .i64 t5) (v6 := .string t6) (v7 := .bool t7) (v8 := .slice A t8.length c) (v9 := .slice A' t9.length c') HW.out.1 (Nat.le_refl _)
 have hr : BTIn (put10 w2 w.heap.size (.int .i64 t0) (.int .i64 t1) (.bool t2) (.int .i64 t3) (.int .i64 t4) (.int .i64 t5) (.string t6) (.bool t7) (.slice A t8.length c) (.slice A' t9.length c')) (fun k => w.heap.size ≤ k) ⟨t0, t1, t2, t3, t4, t5, t6, t7, t8, t9⟩ [.int .i64 t0, .int .i64 t1, .bool t2, .int .i64 t3, .int .i64 t4, .int .i64 t5, .string t6, .bool t7, .slice A t8.length c, .slice A' t9.length c'] := BTIn.step (fun k q cells hk _ _ hc => ⟨(put10_other _ _ _ _ _ _ _ _ _ _ _ _ k (by have := HW.out.2; omega)).trans hc, by have := HW.out.2; omega⟩) HT.out
 refine show bodyPost Tryz.prog Tryz.f79 _ Exit.ret _ (put10 w2 w.heap.size (.int .i64 t0) (.int .i64 t1) (.bool t2) (.int .i64 t3) (.int .i64 t4) (.int .i64 t5) (.string t6) (.bool t7) (.slice A t8.length c) (.slice A' t9.length c')) from ?_
 generalize put10 w2 w.heap.size (.int .i64 t0) (.int .i64 t1) (.bool t2) (.int .i64 t3) (.int .i64 t4) (.int .i64 t5) (.string t6) (.bool t7) (.slice A t8.length c) (.slice A' t9.length c') = W at hp hq hr ⊢
 obtain ⟨y0, y1, y2, y3, y4, y5, y6, y7, y8, y9⟩ := cb10_ hp
 refine bodyPost_ret (v := .agg #[.int .i64 t0, .int .i64 t1, .bool t2, .int .i64 t3, .int .i64 t4, .int .i64 t5, .string t6, .bool t7, .slice A t8.length c, .slice A' t9.length c']) (by simp [results, Tryz.results79, go_sem, y0, y1, y2, y3, y4, y5, y6, y7, y8, y9]) rfl ⟨⟨_, rfl, hr⟩, hq⟩
theorem bk_zero (k wd : Int) (s : Bool) (u : Int) (t : Nat) (h : (k, wd, s, u, t) ∈ zeroTab) : BkT ⟨k, wd, s, u, 0, 0, emp, false, [], []⟩ (.zero t) := by
 intro w ok v hv
 obtain ⟨_, a, rfl⟩ := hv
 simp only [zeroTab, List.mem_cons, List.not_mem_nil, or_false, Prod.mk.injEq] at h
 rcases h with ⟨rfl, rfl, rfl, rfl, rfl⟩ | ⟨rfl, rfl, rfl, rfl, rfl⟩ | ⟨rfl, rfl, rfl, rfl, rfl⟩ | ⟨rfl, rfl, rfl, rfl, rfl⟩ | ⟨rfl, rfl, rfl, rfl, rfl⟩ | ⟨rfl, rfl, rfl, rfl, rfl⟩ | ⟨rfl, rfl, rfl, rfl, rfl⟩ | ⟨rfl, rfl, rfl, rfl, rfl⟩ | ⟨rfl, rfl, rfl, rfl, rfl⟩ | ⟨rfl, rfl, rfl, rfl, rfl⟩ | ⟨rfl, rfl, rfl, rfl, rfl⟩ | ⟨rfl, rfl, rfl, rfl, rfl⟩ | ⟨rfl, rfl, rfl, rfl, rfl⟩ | ⟨rfl, rfl, rfl, rfl, rfl⟩ | ⟨rfl, rfl, rfl, rfl, rfl⟩ | ⟨rfl, rfl, rfl, rfl, rfl⟩ | ⟨rfl, rfl, rfl, rfl, rfl⟩ | ⟨rfl, rfl, rfl, rfl, rfl⟩ | ⟨rfl, rfl, rfl, rfl, rfl⟩ | ⟨rfl, rfl, rfl, rfl, rfl⟩ | ⟨rfl, rfl, rfl, rfl, rfl⟩ | ⟨rfl, rfl, rfl, rfl, rfl⟩ | ⟨rfl, rfl, rfl, rfl, rfl⟩ | ⟨rfl, rfl, rfl, rfl, rfl⟩
 ·exact (tb_101 _ w).mono fun e w' ⟨he, hb⟩ => ⟨⟨_, he, bt0 _ _ _ _ _ _ _ _⟩, hb⟩
 ·exact (tb_104 _ w).mono fun e w' ⟨he, hb⟩ => ⟨⟨_, he, bt0 _ _ _ _ _ _ _ _⟩, hb⟩
 ·exact (tb_106 _ w).mono fun e w' ⟨he, hb⟩ => ⟨⟨_, he, bt0 _ _ _ _ _ _ _ _⟩, hb⟩
 ·exact (tb_108 _ w).mono fun e w' ⟨he, hb⟩ => ⟨⟨_, he, bt0 _ _ _ _ _ _ _ _⟩, hb⟩
 ·exact (tb_110 _ w).mono fun e w' ⟨he, hb⟩ => ⟨⟨_, he, bt0 _ _ _ _ _ _ _ _⟩, hb⟩
 ·exact (tb_112 _ w).mono fun e w' ⟨he, hb⟩ => ⟨⟨_, he, bt0 _ _ _ _ _ _ _ _⟩, hb⟩
 ·exact (tb_114 _ w).mono fun e w' ⟨he, hb⟩ => ⟨⟨_, he, bt0 _ _ _ _ _ _ _ _⟩, hb⟩
 ·exact (tb_127 _ w).mono fun e w' ⟨he, hb⟩ => ⟨⟨_, he, bt0 _ _ _ _ _ _ _ _⟩, hb⟩
 ·exact (tb_129 _ w).mono fun e w' ⟨he, hb⟩ => ⟨⟨_, he, bt0 _ _ _ _ _ _ _ _⟩, hb⟩
 ·exact (tb_131 _ w).mono fun e w' ⟨he, hb⟩ => ⟨⟨_, he, bt0 _ _ _ _ _ _ _ _⟩, hb⟩
 ·exact (tb_133 _ w).mono fun e w' ⟨he, hb⟩ => ⟨⟨_, he, bt0 _ _ _ _ _ _ _ _⟩, hb⟩
 ·exact (tb_135 _ w).mono fun e w' ⟨he, hb⟩ => ⟨⟨_, he, bt0 _ _ _ _ _ _ _ _⟩, hb⟩
 ·exact (tb_137 _ w).mono fun e w' ⟨he, hb⟩ => ⟨⟨_, he, bt0 _ _ _ _ _ _ _ _⟩, hb⟩
 ·exact (tb_139 _ w).mono fun e w' ⟨he, hb⟩ => ⟨⟨_, he, bt0 _ _ _ _ _ _ _ _⟩, hb⟩
 ·exact (tb_141 _ w).mono fun e w' ⟨he, hb⟩ => ⟨⟨_, he, bt0 _ _ _ _ _ _ _ _⟩, hb⟩
 ·exact (tb_143 _ w).mono fun e w' ⟨he, hb⟩ => ⟨⟨_, he, bt0 _ _ _ _ _ _ _ _⟩, hb⟩
 ·exact tb_pass 198 _ _ (by decide) w (fun w1 _ => (tb_198 _ w1).mono fun e w' ⟨he, hb⟩ => ⟨⟨_, he, bt0 _ _ _ _ _ _ _ _⟩, hb⟩)
 ·exact tb_pass 200 _ _ (by decide) w (fun w1 _ => (tb_200 _ w1).mono fun e w' ⟨he, hb⟩ => ⟨⟨_, he, bt0 _ _ _ _ _ _ _ _⟩, hb⟩)
 ·exact tb_pass 202 _ _ (by decide) w (fun w1 _ => (tb_202 _ w1).mono fun e w' ⟨he, hb⟩ => ⟨⟨_, he, bt0 _ _ _ _ _ _ _ _⟩, hb⟩)
 ·exact tb_pass 204 _ _ (by decide) w (fun w1 _ => (tb_204 _ w1).mono fun e w' ⟨he, hb⟩ => ⟨⟨_, he, bt0 _ _ _ _ _ _ _ _⟩, hb⟩)
 ·exact tb_pass 206 _ _ (by decide) w (fun w1 _ => (tb_206 _ w1).mono fun e w' ⟨he, hb⟩ => ⟨⟨_, he, bt0 _ _ _ _ _ _ _ _⟩, hb⟩)
 ·exact tb_pass 208 _ _ (by decide) w (fun w1 _ => (tb_208 _ w1).mono fun e w' ⟨he, hb⟩ => ⟨⟨_, he, bt0 _ _ _ _ _ _ _ _⟩, hb⟩)
 ·exact tb_pass 210 _ _ (by decide) w (fun w1 _ => (tb_210 _ w1).mono fun e w' ⟨he, hb⟩ => ⟨⟨_, he, bt0 _ _ _ _ _ _ _ _⟩, hb⟩)
 ·exact tb_pass 212 _ _ (by decide) w (fun w1 _ => (tb_212 _ w1).mono fun e w' ⟨he, hb⟩ => ⟨⟨_, he, bt0 _ _ _ _ _ _ _ _⟩, hb⟩)
theorem bk_num (u : Int) (t : Nat) (k : Int) (wd un : Int) (h : (t = 116 ∧ k = 9 ∧ wd = 0 ∧ un = u) ∨ (t = 120 ∧ k = 9 ∧ wd = 0 ∧ un = u) ∨ (t = 125 ∧ k = 18 ∧ wd = 0 ∧ un = u) ∨ (t = 145 ∧ k = 15 ∧ wd = u ∧ un = 0)) : BkT ⟨k, wd, false, un, 0, 0, emp, false, [], []⟩ (.num t u) := by
 intro w ok v hv
 obtain ⟨_, g, rfl, _, hg⟩ := hv
 have h0 := (blk_cell hg 0).trans (show _ = some (.int .i64 u : Value) from rfl)
 rcases h with ⟨rfl, rfl, rfl, rfl⟩ | ⟨rfl, rfl, rfl, rfl⟩ | ⟨rfl, rfl, rfl, rfl⟩ | ⟨rfl, rfl, rfl, rfl⟩
 ·exact (tb_116 g _ w h0).mono fun e w' ⟨he, hb⟩ => ⟨⟨_, he, bt0 _ _ _ _ _ _ _ _⟩, hb⟩
 ·exact (tb_120 g _ w h0).mono fun e w' ⟨he, hb⟩ => ⟨⟨_, he, bt0 _ _ _ _ _ _ _ _⟩, hb⟩
 ·exact (tb_125 g _ w h0).mono fun e w' ⟨he, hb⟩ => ⟨⟨_, he, bt0 _ _ _ _ _ _ _ _⟩, hb⟩
 ·exact (tb_145 g _ w h0).mono fun e w' ⟨he, hb⟩ => ⟨⟨_, he, bt0 _ _ _ _ _ _ _ _⟩, hb⟩
theorem bk_stamp (u : Int) (z : ByteArray) : BkT ⟨10, 0, false, u, 0, 0, z, false, [], []⟩ (.stamp u z) := by
 intro w ok v hv
 obtain ⟨g, rfl, _, hg⟩ := hv
 exact (tb_122 g u z w ((blk_cell hg 0).trans rfl) ((blk_cell hg 1).trans rfl)).mono fun e w' ⟨he, hb⟩ => ⟨⟨_, he, bt0 _ _ _ _ _ _ _ _⟩, hb⟩
theorem bk_dec (wd : Int) (t : Nat) (p c : Int) (h : (wd, t) ∈ decTab) (h0 : 1 ≤ p) (h1 : p ≤ 76) (h2 : -76 ≤ c) (h3 : c ≤ 76) : BkT ⟨7, wd, false, 0, p, c, emp, false, [], []⟩ (.dec t p c) := by
 intro w ok v hv
 obtain ⟨_, g, rfl, _, hg⟩ := hv
 have e0 := i32_64 p (by omega) (by omega)
 have e1 := i32_64 c (by omega) (by omega)
 have x0 := (blk_cell hg 0).trans (show _ = some (.int .i32 p : Value) from rfl)
 have x1 := (blk_cell hg 1).trans (show _ = some (.int .i32 c : Value) from rfl)
 simp only [decTab, List.mem_cons, List.not_mem_nil, or_false, Prod.mk.injEq] at h
 rcases h with ⟨rfl, rfl⟩ | ⟨rfl, rfl⟩ | ⟨rfl, rfl⟩ | ⟨rfl, rfl⟩
 ·exact (tb_214 g p c w e0 e1 x0 x1).mono fun e w' ⟨he, hb⟩ => ⟨⟨_, he, bt0 _ _ _ _ _ _ _ _⟩, hb⟩
 ·exact (tb_217 g p c w e0 e1 x0 x1).mono fun e w' ⟨he, hb⟩ => ⟨⟨_, he, bt0 _ _ _ _ _ _ _ _⟩, hb⟩
 ·exact (tb_219 g p c w e0 e1 x0 x1).mono fun e w' ⟨he, hb⟩ => ⟨⟨_, he, bt0 _ _ _ _ _ _ _ _⟩, hb⟩
 ·exact (tb_221 g p c w e0 e1 x0 x1).mono fun e w' ⟨he, hb⟩ => ⟨⟨_, he, bt0 _ _ _ _ _ _ _ _⟩, hb⟩
theorem all2_one {f : S30} {d : DF} (h : BkF f d) : All2 BkF [f] [d] := .cons h .nil
theorem bk_list (k : Int) (t : Nat) (T : S28) (d : DT) (h : (k, t) ∈ listTab) (hs : BkT T d) : BkT ⟨k, 0, false, 0, 0, 0, emp, false, [], [⟨nmItem, true, T, []⟩]⟩ (.list t (.mk nmItem d true)) := by
 intro w ok v hv
 obtain ⟨_, g, cs, rfl, _, hg, x, rfl, hx⟩ := hv
 obtain ⟨q, a, rfl⟩ := hx.form
 have hB : Backs [⟨nmItem, true, T, []⟩] [.mk nmItem d true] := backs48 _ _ (all2_one ⟨_, _, _, _, rfl, rfl, hs⟩) (by simp)
 simp only [listTab, List.mem_cons, List.not_mem_nil, or_false, Prod.mk.injEq] at h
 rcases h with ⟨rfl, rfl⟩ | ⟨rfl, rfl⟩ | ⟨rfl, rfl⟩ | ⟨rfl, rfl⟩
 ·exact tb_pass 154 _ _ (by decide) w (fun w1 hb1 => (nb_154 g _ _ hB w1 (fl_111 g nmItem q a true d ok w1 (hx.below hb1) (fun w2 hb2 => ef_125 g nmItem q a true w2 (pw_cell_below (below_step hb1 hb2) ((blk_cell hg 0).trans rfl)) (pw_cell_below (below_step hb1 hb2) ((blk_cell hg 1).trans rfl)) (pw_cell_below (below_step hb1 hb2) ((blk_cell hg 2).trans rfl)) (pw_cell_below (below_step hb1 hb2) ((blk_cell hg 3).trans rfl)) (pw_cell_below (below_step hb1 hb2) ((blk_cell hg 4).trans rfl))))).mono fun e w' ⟨⟨A, c, he, hR⟩, hb⟩ => ⟨⟨_, he, btF _ _ _ _ _ _ _ _ hR⟩, hb⟩)
 ·exact tb_pass 233 _ _ (by decide) w (fun w1 hb1 => (nb_233 g _ _ hB w1 (fl_111 g nmItem q a true d ok w1 (hx.below hb1) (fun w2 hb2 => ef_125 g nmItem q a true w2 (pw_cell_below (below_step hb1 hb2) ((blk_cell hg 0).trans rfl)) (pw_cell_below (below_step hb1 hb2) ((blk_cell hg 1).trans rfl)) (pw_cell_below (below_step hb1 hb2) ((blk_cell hg 2).trans rfl)) (pw_cell_below (below_step hb1 hb2) ((blk_cell hg 3).trans rfl)) (pw_cell_below (below_step hb1 hb2) ((blk_cell hg 4).trans rfl))))).mono fun e w' ⟨⟨A, c, he, hR⟩, hb⟩ => ⟨⟨_, he, btF _ _ _ _ _ _ _ _ hR⟩, hb⟩)
 ·exact tb_pass 180 _ _ (by decide) w (fun w1 hb1 => (nb_180 g _ _ hB w1 (fl_112 g nmItem q a true d ok w1 (hx.below hb1) (fun w2 hb2 => ef_126 g nmItem q a true w2 (pw_cell_below (below_step hb1 hb2) ((blk_cell hg 0).trans rfl)) (pw_cell_below (below_step hb1 hb2) ((blk_cell hg 1).trans rfl)) (pw_cell_below (below_step hb1 hb2) ((blk_cell hg 2).trans rfl)) (pw_cell_below (below_step hb1 hb2) ((blk_cell hg 3).trans rfl)) (pw_cell_below (below_step hb1 hb2) ((blk_cell hg 4).trans rfl))))).mono fun e w' ⟨⟨A, c, he, hR⟩, hb⟩ => ⟨⟨_, he, btF _ _ _ _ _ _ _ _ hR⟩, hb⟩)
 ·exact tb_pass 236 _ _ (by decide) w (fun w1 hb1 => (nb_236 g _ _ hB w1 (fl_113 g nmItem q a true d ok w1 (hx.below hb1) (fun w2 hb2 => ef_127 g nmItem q a true w2 (pw_cell_below (below_step hb1 hb2) ((blk_cell hg 0).trans rfl)) (pw_cell_below (below_step hb1 hb2) ((blk_cell hg 1).trans rfl)) (pw_cell_below (below_step hb1 hb2) ((blk_cell hg 2).trans rfl)) (pw_cell_below (below_step hb1 hb2) ((blk_cell hg 3).trans rfl)) (pw_cell_below (below_step hb1 hb2) ((blk_cell hg 4).trans rfl))))).mono fun e w' ⟨⟨A, c, he, hR⟩, hb⟩ => ⟨⟨_, he, btF _ _ _ _ _ _ _ _ hR⟩, hb⟩)
theorem bk_flist (wd : Int) (T : S28) (d : DT) (h0 : 1 ≤ wd) (h1 : wd ≤ 1000) (hs : BkT T d) : BkT ⟨16, wd, false, 0, 0, 0, emp, false, [], [⟨nmItem, true, T, []⟩]⟩ (.flist wd (.mk nmItem d true)) := by
 intro w ok v hv
 obtain ⟨g, cs, rfl, _, hg, x, rfl, hx⟩ := hv
 obtain ⟨q, a, rfl⟩ := hx.form
 have hB : Backs [⟨nmItem, true, T, []⟩] [.mk nmItem d true] := backs48 _ _ (all2_one ⟨_, _, _, _, rfl, rfl, hs⟩) (by simp)
 exact tb_pass 158 _ _ (by decide) w (fun w1 hb1 => (nb_158 g wd _ _ (i32_64 wd (by omega) (by omega)) hB w1 (fl_115 g nmItem q a true d ok w1 (hx.below hb1) (fun w2 hb2 => ef_128 g nmItem q a true w2 (pw_cell_below (below_step hb1 hb2) ((blk_cell hg 1).trans rfl)) (pw_cell_below (below_step hb1 hb2) ((blk_cell hg 2).trans rfl)) (pw_cell_below (below_step hb1 hb2) ((blk_cell hg 3).trans rfl)) (pw_cell_below (below_step hb1 hb2) ((blk_cell hg 4).trans rfl)) (pw_cell_below (below_step hb1 hb2) ((blk_cell hg 5).trans rfl)))) (pw_cell_below hb1 ((blk_cell hg 0).trans rfl))).mono fun e w' ⟨⟨A, c, he, hR⟩, hb⟩ => ⟨⟨_, he, btF _ _ _ _ _ _ _ _ hR⟩, hb⟩)
theorem bk_struct (fs : List S30) (ds : List DF) (h : All2 BkF fs ds) (hl : fs.length ≤ 2000) : BkT ⟨13, 0, false, 0, 0, 0, emp, false, [], fs⟩ (.struct ds) := by
 intro w ok v hv
 obtain ⟨g, A, c, m, rfl, _, hg, h1, h2, hr⟩ := hv
 have hlen := h.length
 have hR : RowAt w ok A ds := fun hn => by
  obtain ⟨b, arr, rfl, _, hb, hd⟩ := hr hn
  exact row_of hb hd hn
 exact tb_pass 165 _ _ (by decide) w (fun w1 hb1 => (nb_165 g _ _ (backs48 fs ds h hl) w1 (fl_116 g c A ds ok w1 (by omega) (pw_cell_below hb1 ((blk_cell hg 0).trans rfl)) (hR.below hb1))).mono fun e w' ⟨⟨A, c, he, hR⟩, hb⟩ => ⟨⟨_, he, btF _ _ _ _ _ _ _ _ hR⟩, hb⟩)
theorem bk_map (E : S28) (K V : DT) (fl : Bool) (hE : BkT E (.struct [.mk nmKey K false, .mk nmValue V true])) : BkT ⟨17, 0, false, 0, 0, 0, emp, fl, [], [⟨nmEntries, false, E, []⟩]⟩ (.map (.mk nmEntries (.struct [.mk nmKey K false, .mk nmValue V true]) false) fl) := by
 intro w ok v hv
 obtain ⟨g, b, cs, rfl, _, _, hg, hbk, x, rfl, hx⟩ := hv
 obtain ⟨q, a, rfl⟩ := hx.form
 have hB : Backs [⟨nmEntries, false, E, []⟩] [.mk nmEntries (.struct [.mk nmKey K false, .mk nmValue V true]) false] := backs48 _ _ (all2_one ⟨_, _, _, _, rfl, rfl, hE⟩) (by simp)
 exact tb_pass 161 _ _ (by decide) w (fun w1 hb1 => (nb_161 g fl _ _ hB w1 (fl_110 g nmEntries q a false _ ok w1 (hx.below hb1) (fun w2 hb2 => ef_124 g b q a w2 (pw_cell_below (below_step hb1 hb2) ((blk_cell hg 0).trans rfl)) (pw_cell_below (below_step hb1 hb2) ((blk_cell hbk 1).trans rfl)))) (pw_cell_below hb1 ((blk_cell hg 1).trans rfl))).mono fun e w' ⟨⟨A, c, he, hR⟩, hb⟩ => ⟨⟨_, he, btF _ _ _ _ _ _ _ _ hR⟩, hb⟩)
theorem bk_union (u : Int) (t : Nat) (fs : List S30) (ds : List DF) (ids : List Int) (h : (u, t) ∈ unionTab) (hf : All2 BkF fs ds) (h0 : 0 < fs.length) (hl : fs.length ≤ 100) (hi : ids.length = fs.length) (hr : ∀ x ∈ ids, 0 ≤ x ∧ x ≤ 126) : BkT ⟨14, 0, false, u, 0, 0, emp, false, ids, fs⟩ (.union t ds ids) := by
 intro w ok v hv
 obtain ⟨_, g, A, c, A', c', rfl, _, hg, h1, h2, h3, h4, hF, hC⟩ := hv
 have hlen := hf.length
 have y0 : w.cell? ⟨g, 0, none⟩ = some (.slice A ds.length c) := (blk_cell hg 0).trans (by simp)
 have y1 : w.cell? ⟨g, 1, none⟩ = some (.slice A' ids.length c') := (blk_cell hg 1).trans (by simp)
 have hB : 0 < ids.length → ∃ ad, A' = some ad ∧ ∀ (j : Nat) (hj : j < ids.length), w.cell? (ad.add j) = some (.int .i8 ids[j]) := fun hn => by
  obtain ⟨b, arr, rfl, _, hb, hh⟩ := hC hn
  refine ⟨_, rfl, fun j hj => ?_⟩
  rw [add0_, blk_cell hb]
  exact hh j _ (List.getElem?_eq_getElem hj)
 simp only [unionTab, List.mem_cons, List.not_mem_nil, or_false, Prod.mk.injEq] at h
 rcases h with ⟨rfl, rfl⟩ | ⟨rfl, rfl⟩
 ·exact tb_pass 224 _ _ (by decide) w (fun w1 hb1 => (nb_224 g A' c' ids fs ds (backs48 fs ds hf (by omega)) w1 (fl_119 g c A ds ok w1 (by omega) (by omega) (pw_cell_below hb1 y0) (FsAt.below hF hb1)) (fun w2 hb2 => codes117 ids A' c' (by omega) hr w2 (fun hn => by obtain ⟨ad, e, hh⟩ := hB hn; exact ⟨ad, e, fun j hj => pw_cell_below (below_step hb1 hb2) (hh j hj)⟩)) (pw_cell_below hb1 y1)).mono fun e w' ⟨⟨A, c, A3, c3, he, hI, hR⟩, hb⟩ => ⟨⟨_, he, btU _ _ _ _ _ _ _ _ hI hR⟩, hb⟩)
 ·exact tb_pass 226 _ _ (by decide) w (fun w1 hb1 => (nb_226 g A' c' ids fs ds (backs48 fs ds hf (by omega)) w1 (fl_119 g c A ds ok w1 (by omega) (by omega) (pw_cell_below hb1 y0) (FsAt.below hF hb1)) (fun w2 hb2 => codes117 ids A' c' (by omega) hr w2 (fun hn => by obtain ⟨ad, e, hh⟩ := hB hn; exact ⟨ad, e, fun j hj => pw_cell_below (below_step hb1 hb2) (hh j hj)⟩)) (pw_cell_below hb1 y1)).mono fun e w' ⟨⟨A, c, A3, c3, he, hI, hR⟩, hb⟩ => ⟨⟨_, he, btU _ _ _ _ _ _ _ _ hI hR⟩, hb⟩)
theorem bk_ree (R V : S28) (dr dv : DT) (hr : BkT R dr) (hv : BkT V dv) : BkT ⟨22, 0, false, 0, 0, 0, emp, false, [], [⟨nmRunEnds, false, R, []⟩, ⟨nmValues, true, V, []⟩]⟩ (.ree dr dv true) := by
 intro w ok v h
 obtain ⟨g, x, y, rfl, _, hg, hx, hy⟩ := h
 have hB : Backs [⟨nmRunEnds, false, R, []⟩, ⟨nmValues, true, V, []⟩] [.mk nmRunEnds dr false, .mk nmValues dv true] := backs48 _ _ (.cons ⟨_, _, _, _, rfl, rfl, hr⟩ (all2_one ⟨_, _, _, _, rfl, rfl, hv⟩)) (by simp)
 exact tb_pass 177 _ _ (by decide) w (fun w1 hb1 => (nb_177 g _ _ hB w1 (fl_120 g x y true dr dv ok w1 (hx.below hb1) (hy.below hb1) (pw_cell_below hb1 ((blk_cell hg 0).trans rfl)) (pw_cell_below hb1 ((blk_cell hg 1).trans rfl)) (pw_cell_below hb1 ((blk_cell hg 2).trans rfl)))).mono fun e w' ⟨⟨A, c, he, hR⟩, hb⟩ => ⟨⟨_, he, btF _ _ _ _ _ _ _ _ hR⟩, hb⟩)
theorem bk_dict (I V : S28) (di dv : DT) (fl : Bool) (hi : BkT I di) (hv : BkT V dv) : BkT ⟨27, 0, false, 0, 0, 0, emp, fl, [], [⟨emp, false, I, []⟩, ⟨emp, false, V, []⟩]⟩ (.dict di dv fl) := by
 intro w ok v h
 obtain ⟨g, x, y, rfl, _, hg, hx, hy⟩ := h
 exact tb_pass 229 _ _ (by decide) w (fun w1 hb1 => (nb_229 g fl x y I V di dv ok hi hv w1 (hx.below hb1) (hy.below hb1) (pw_cell_below hb1 ((blk_cell hg 2).trans rfl)) (pw_cell_below hb1 ((blk_cell hg 0).trans rfl)) (pw_cell_below hb1 ((blk_cell hg 1).trans rfl))).mono fun e w' ⟨⟨A, c, he, hR⟩, hb⟩ => ⟨⟨_, he, btF _ _ _ _ _ _ _ _ hR⟩, hb⟩)
theorem bkFD {sub : S28 → DT → Prop} (hs : ∀ T d, sub T d → BkT T d) {fs : List S30} {ds : List DF} (h : All2 (FD sub) fs ds) : All2 BkF fs ds := by
 induction h with
 | nil => exact .nil
 | cons hab _ ih =>
  obtain ⟨n, T, t, rfl, rfl, hT, _⟩ := hab
  exact .cons ⟨_, _, _, _, rfl, rfl, hs T t hT⟩ ih
theorem bkT : ∀ (n : Nat) (T : S28) (d : DT), TD n T d → BkT T d
 | 0, T, d, h => h.elim
 | n + 1, T, d, h0 => by
  have ih := bkT n
  have hh : TDs (TD n) T d := h0
  clear h0
  cases hh with
  | zero k w s u t h => exact bk_zero k w s u t h
  | time u t h =>
   simp only [timeTab, List.mem_cons, List.not_mem_nil, or_false, Prod.mk.injEq] at h
   rcases h with ⟨rfl, rfl⟩ | ⟨rfl, rfl⟩ | ⟨rfl, rfl⟩ | ⟨rfl, rfl⟩ <;> exact bk_num _ _ _ _ _ (by simp)
  | stamp u z h0 h1 h2 => exact bk_stamp u z
  | dur u h0 h1 => exact bk_num _ _ _ _ _ (by simp)
  | dec w t p c h h0 h1 h2 h3 => exact bk_dec w t p c h h0 h1 h2 h3
  | fsb w h0 h1 => exact bk_num _ _ _ _ _ (by simp)
  | list k t T d h hs => exact bk_list k t T d h (ih _ _ hs)
  | flist w T d h0 h1 hs => exact bk_flist w T d h0 h1 (ih _ _ hs)
  | struct fs ds h hl => exact bk_struct fs ds (bkFD ih h) (by omega)
  | map K V dk dv fl he hk hv => exact bk_map _ dk dv fl (ih _ _ he)
  | entries K V dk dv hk hv => exact bk_struct _ _ (.cons ⟨_, _, _, _, rfl, rfl, ih _ _ hk⟩ (all2_one ⟨_, _, _, _, rfl, rfl, ih _ _ hv⟩)) (by simp)
  | union u t fs ds ids h hf h0 hl hi hr hd => exact bk_union u t fs ds ids h (bkFD ih hf) h0 hl hi hr
  | ree R V dr dv hr hv => exact bk_ree R V dr dv (ih _ _ hr) (ih _ _ hv)
  | dict I V di dv fl hi hv => exact bk_dict I V di dv fl (ih _ _ hi) (ih _ _ hv)
end Go.Proofs.YteebgnhhjlgnjaaGreatDoor.V
