/- A map of rows of which the row at one name is known. -/
import Derived.Test.YteebgnhhjlgnjaaGreatDoorB10
import Derived.Test.YteebgnhhjlgnjaaGreatDoorB15
namespace Go.Proofs.YteebgnhhjlgnjaaGreatDoor.V
open Go.RowKit Go.Proofs.YteebgnhhjlgnjaaGreatDoorW.PrintWords Go.Proofs.YteebgnhhjlgnjaaGreatDoorW.PrintLast Go.Proofs.YteebgnhhjlgnjaaGreatDoorW.PrintMore
set_option maxHeartbeats 40000000
set_option maxRecDepth 100000
set_option linter.unusedVariables false
set_option linter.unusedSimpArgs false
open Go.Maps Go.WideElems Go.MapKept
def nmA : ByteArray := ⟨#[97]⟩
def klA : Lit := .string [97]
def rngI (n : Nat) : List Int := (List.range n).map fun (i : Nat) => (i : Int)
theorem rngI_succ (n : Nat) : rngI (n + 1) = rngI n ++ [(n : Int)] := by simp [rngI, List.range_succ]
theorem map_inj_ {α β : Type} {f : α → β} (hf : ∀ a b, f a = f b → a = b) : ∀ l l' : List α, l.map f = l'.map f → l = l'
 | [], [], _ => rfl
 | [], b :: l', h => by simp at h
 | a :: l, [], h => by simp at h
 | a :: l, b :: l', h => by
  simp only [List.map_cons, List.cons.injEq] at h
  rw [hf _ _ h.1, map_inj_ hf l l' h.2]
theorem rowDatum_inj {w w' : World} {base base' : Nat} {v v' : Value} {zs zs' : List Int} (hz : w.ownsInts base 3 .i64 v zs) (hz' : w'.ownsInts base' 3 .i64 v' zs') (h : (rowDatum .i64 v zs : DataW Unit) = rowDatum .i64 v' zs') : zs = zs' := by
 rcases hz.1.2 with ⟨rfl, h0⟩ | ⟨g, cap, cur, rfl, _⟩ <;> rcases hz'.1.2 with ⟨rfl, h0'⟩ | ⟨g', cap', cur', rfl, _⟩
 ·rw [List.eq_nil_of_length_eq_zero h0, List.eq_nil_of_length_eq_zero h0']
 ·simp [rowDatum] at h
 ·simp [rowDatum] at h
 ·simp only [rowDatum, DataW.slice.injEq] at h
  have h1 := h.1
  exact map_inj_ (fun a b e => by simpa using e) _ _ h1
theorem og_kept {w w' : World} {base m n : Nat} {D : DataW Unit} (h : w.ownsGroups Tryz.prog 9 base 3 .i64 m n D) {row : Option Nat} (hg : w.grownBy w' row) (ht : ∀ g, row = some g → ∃ cs t, w.heap[g]? = some (.cells cs t (0, 0)) ∧ t ≠ 3) : w'.ownsGroups Tryz.prog 9 base 3 .i64 m n D := by
 refine h.kept hg ?_ ?_
 ·rintro e
  obtain ⟨cs, t, hc, _⟩ := ht m e.symm
  obtain ⟨es, clock, hb, _⟩ := h
  rw [hb] at hc
  cases hc
 ·intro es clock hb x hx
  obtain ⟨es', clock', hb', F, _⟩ := h
  rw [hb] at hb'
  cases hb'
  obtain ⟨y, hy⟩ := F.reads x hx
  obtain ⟨z, hz, _⟩ := rd_val hy
  obtain ⟨zs, ho, _⟩ := rowElem_inv hz
  cases hv : x.val.ownBlock with
  | none => exact .inl rfl
  | some g =>
   refine .inr fun e => ?_
   obtain ⟨cs, t, hc, hne⟩ := ht g e.symm
   obtain ⟨cells, hc'⟩ := own_typed ho.1 g hv
   rw [hc] at hc'
   cases hc'
   exact hne rfl
def GrpA (w : World) (base m n : Nat) : Prop := ∃ D : DataW Unit, w.ownsGroups Tryz.prog 9 base 3 .i64 m n D ∧ IsMap D ∧ ∀ (w' : World) (base' : Nat) (v : Value) (zs : List Int), w'.ownsInts base' 3 .i64 v zs → D.atKey klA .nil = rowDatum .i64 v zs → zs = rngI n
theorem keyA : keyOf Tryz.prog 9 (.string nmA) = some klA := Go.WideMaps.keyOf_string_mk Tryz.underlying9 (by decide)
theorem grpA : GSys (fun s => s = nmA) GrpA where
 made := fun w => ⟨_, World.ownsGroups_made w Tryz.prog 9 3 .i64, isMap_empty, fun w' base' v zs ho h => by
  rcases ho.1.2 with ⟨rfl, h0⟩ | ⟨g, cap, cur, rfl, _⟩
  ·rw [List.eq_nil_of_length_eq_zero h0]; rfl
  ·simp [rowDatum, DataW.atKey] at h⟩
 kept := fun ⟨D, h1, h2, h3⟩ hg ht => ⟨D, og_kept h1 hg ht, h2, h3⟩
 map := fun ⟨D, ⟨es, clock, hb, _⟩, _⟩ => ⟨es, clock, hb⟩
 look := fun {w base m n} ⟨D, h1, h2, h3⟩ hn s hs _ => by
  subst hs
  obtain ⟨v, zs, hrun, hat, ho, hl, hback⟩ := h1.at law9 Tryz.underlying82 (zero26 w) hn keyA
  have hz := h3 w base v zs ho hat
  refine ⟨v, zs, hrun, ho, hl, fun w1 v' hg ho' ha => ?_⟩
  obtain ⟨w2, q1, q2, q3⟩ := hback w1 v' _ hg ho' (by simp; omega) ha
  refine ⟨w2, q1, ⟨_, q2, h2.put _ _, fun w' base' v2 zs2 ho2 h => ?_⟩, q3⟩
  rw [atKey_put_same h2 (by trivial)] at h
  rw [rngI_succ, ← hz]
  exact (rowDatum_inj ho' ho2 h).symm
theorem GrpA.look {w : World} {base m n : Nat} (h : GrpA w base m n) (hn : n < maxLen) : ∃ v, (Instr.lookup 82 (.map (some m)) (.string nmA) false).run Tryz.prog w = .ok v w ∧ w.ownsInts base 3 .i64 v (rngI n) := by
 obtain ⟨D, h1, h2, h3⟩ := h
 obtain ⟨v, zs, hrun, hat, ho, hl, _⟩ := h1.at law9 Tryz.underlying82 (zero26 w) hn keyA
 have hz := h3 w base v zs ho hat
 subst hz
 exact ⟨v, hrun, ho⟩
theorem rowB_C {W : World} {base : Nat} {A : Option Addr} {c : Nat} {fs : List S30} (h : RowB W base A c fs) : fs.length ≤ c ∧ Kd.C k30 W A fs.length fs := by
 have hk := (btF 0 0 false 0 0 0 emp false h).read
 obtain ⟨A8, c8, A9, c9, e, l8, g8, l9, g9⟩ := k28_open hk
 simp only [List.cons.injEq, Value.slice.injEq] at e
 obtain ⟨_, _, _, _, _, _, _, _, _, ⟨rfl, _, _⟩, _⟩ := e
 exact ⟨h.1, g9⟩
theorem eql26n (g cap : Nat) (w : World) : (Go.binOp BinOp.eql 26 (.slice (some ⟨g, 0, none⟩) 1 cap) (.slice none 0 0)).run Tryz.prog w = .ok (.bool false) w := by
 first | kernel_rfl | rfl
theorem clone76 (g cap : Nat) (cur : Array Value) (w : World) (hg : w.heap[g]? = some (.cells cur 3 (0, 0))) (h0 : cur[0]? = some (.int .i64 0)) : Calls Tryz.prog 76 #[.slice (some ⟨g, 0, none⟩) 1 cap] w fun e w' => (∃ b c, e = .returned (.slice (some ⟨b, 0, none⟩) 1 c) ∧ w'.cell? ⟨b, 0, none⟩ = some (.int .i64 0) ∧ w.heap.size ≤ b) ∧ Below w.heap.size w w' := by
 obtain ⟨i0, hi, hzz⟩ := Option.map_eq_some_iff.1 info3
 simp only [Prod.mk.injEq] at hzz
 have HI := Aside0.mk (And.intro hi hzz)
 have HG := Aside0.mk (And.intro hg h0)
 have HC : Aside0 (∀ u ∈ ([.int .i64 0] : List Value), u.oneCell' = true) := ⟨fun u hu => by
  obtain rfl : u = .int .i64 0 := by simpa using hu
  rfl⟩
 have HN : Aside0 (∀ (w1 : World) (j : Nat) (u : Value), w1.heap[g]? = some (.cells cur 3 (0, 0)) → ([.int .i64 0] : List Value)[j]? = some u → w1.cell? ((⟨g, 0, none⟩ : Addr).add j) = some u) := ⟨fun w1 j u hb hj => by
  match j, hj with
  | 0, hj =>
   obtain rfl : Value.int .i64 0 = u := by simpa using hj
   rw [add0_, blk_cell hb]
   exact h0
  | j + 1, hj => simp at hj⟩
 clear hi hzz hg h0
 have q26 : ∀ w : World, (binOp .eql 26 (.slice (some ⟨g, 0, none⟩) 1 cap) (.slice none 0 0)).run Tryz.prog w = .ok (.bool false) w := eql26n g cap
 go_enter Tryz.func76, Tryz.ntmps76
 go_wp2_with ((with_reducible refine gate_builtin (b := .append) (xs := #[.tmp 5, .tmp 6]) rfl ?_); at_builtin; refine wpList_append_own_at _ rfl (.tmp 5) (.tmp 6) 26 rfl w.heap.size 3 i0 (.int .i64 0) 1 8 Tryz.underlying26 HI.out.1 HI.out.2.1 HI.out.2.2.1 HI.out.2.2.2 rfl (by decide) (.slice (some ⟨w.heap.size, 0, none⟩) 0 0) 0 [] rfl ⟨rfl, .inr ⟨w.heap.size, 0, #[], rfl, Nat.le_refl _, blk_new _ _, Nat.le_refl _, by simp, rfl, rfl⟩⟩ ⟨g, 0, none⟩ 1 cap [.int .i64 0] rfl rfl (fun j u hj => HN.out _ j u (blk_alloc_ HG.out.1) hj) HC.out (by simp [maxLen]) (by decide) (by simp [alloc_size_]) ?_; intro v1 w2 hown hg2 _ hat2; have HW := Aside0.mk (And.intro hown hg2); clear hown hg2 hat2)
 go_ret
 obtain ⟨ho, hg2⟩ := HW.out
 rcases ho.2 with ⟨rfl, h0⟩ | ⟨b, cp, cr, rfl, hb, hgb, _, _, _, ht⟩
 ·cases h0
 ·refine ⟨⟨b, cp, rfl, ?_, hb⟩, (b1_ (Below.refl _ _) _).grown hg2 (by simp [alloc_size_]) (fun k hk => by simp [Value.ownBlock] at hk; omega)⟩
  rw [blk_cell hgb, ← Array.getElem?_toList]
  have e := congrArg (fun z => z[0]?) ht
  simpa using e
theorem find40 (T M B : Nat) (w : World) (hT : w.cell? ⟨T, 1, none⟩ = some (.map (some M))) (hG : GrpA w B M 1) : Calls Tryz.prog 40 #[.pointer (some ⟨T, 0, none⟩), .string nmA] w fun e w' => (∃ b c, e = .returned (.slice (some ⟨b, 0, none⟩) 1 c) ∧ w'.cell? ⟨b, 0, none⟩ = some (.int .i64 0) ∧ w.heap.size ≤ b) ∧ Below w.heap.size w w' := by
 obtain ⟨v, hl, ho⟩ := hG.look (by simp [maxLen])
 rcases ho.1.2 with ⟨rfl, h0⟩ | ⟨g, cap, cur, rfl, _, hg, _, _, _, ht⟩
 ·simp [rngI] at h0
 have h0 : cur[0]? = some (.int .i64 0) := by
  rw [← Array.getElem?_toList]
  have e := congrArg (fun z => z[0]?) ht
  simpa [rngI] using e
 have hlen : (rngI 1).length = 1 := rfl
 rw [hlen] at hl
 have HG := Aside0.mk (And.intro hg h0)
 clear hG ho hg ht h0 hlen
 go_enter Tryz.func40, Tryz.ntmps40
 go_wp2_with (go_at_call 76; fail)
 refine calls_at ?_
 intro w1 hw1
 have b1 : Below w.heap.size w w1 := by rw [hw1]; repeat (first | exact Below.refl _ _ | apply b1_ | apply b2_ | apply b3_)
 clear hw1
 refine (clone76 g cap cur w1 (blk_below HG.out.1 b1) HG.out.2).mono ?_
 rintro e w2 ⟨⟨b, c, rfl, hc, hl0⟩, hb2⟩
 have HE := Aside0.mk (And.intro (And.intro hc (Nat.le_trans b1.size hl0)) (below_step b1 hb2))
 clear b1 hc hb2 hT hl hl0
 go_wp2
 go_ret
 exact ⟨⟨b, c, rfl, HE.out.1⟩, HE.out.2⟩
theorem find41 (T M B : Nat) (w : World) (hT : w.cell? ⟨T, 1, none⟩ = some (.map (some M))) (hG : GrpA w B M 1) : Calls Tryz.prog 41 #[.pointer (some ⟨T, 0, none⟩), .string nmA] w fun e w' => e = .returned (.bool true) ∧ Below w.heap.size w w' := by
 obtain ⟨v, hl, ho⟩ := hG.look (by simp [maxLen])
 rcases ho.1.2 with ⟨rfl, h0⟩ | ⟨g, cap, cur, rfl, _, hg, _, _, _, ht⟩
 ·simp [rngI] at h0
 have hlen : (rngI 1).length = 1 := rfl
 rw [hlen] at hl
 clear hG ho hg ht hlen
 go_enter Tryz.func41, Tryz.ntmps41
 go_wp2
 go_ret
 exact ⟨rfl, bl⟩
theorem num42 (T n c : Nat) (A : Option Addr) (w : World) (hT : w.cell? ⟨T, 0, none⟩ = some (.slice A n c)) : Calls Tryz.prog 42 #[.pointer (some ⟨T, 0, none⟩)] w fun e w' => e = .returned (.int .i64 (n : Int)) ∧ Below w.heap.size w w' := by
 go_enter Tryz.func42, Tryz.ntmps42
 go_wp2
 go_ret
 exact ⟨rfl, bl⟩
theorem cell_far {W : World} {p a : Addr} {v : Value} (h : p.block ≠ a.block) : (W.setCell p v).cell? a = W.cell? a := World.cell?_setCell_other _ _ _ _ (fun e => h (congrArg Addr.block e))
theorem cell_step {w w' : World} {a : Addr} {v : Value} (hc : w.cell? a = some v) (hb : Below w.heap.size w w') : w'.cell? a = some v := (hb.cell (World.block_lt_of_cell? w a hc)).trans hc
theorem catch39 (p q r s : Addr) (w : World) :
 CallsD Tryz.prog 39 #[.pointer (some p), .pointer (some q), .pointer (some r), .pointer (some s)] .returning w fun e u' w' => e = .returned (.tuple #[]) ∧ u' = .returning ∧ w = w' := by
 refine callsD_of_wpS Tryz.func39 rfl fun c₀ cs hu => ?_
 apply wpS_seq
 apply wpS_region
 simp [wpOpsS, go_sem, recoverD, hu, Tryz.ntmps39, Exit.thenS]
 refine wpS_cond (t := false) (by simp [Act.eval, Array.replicate]) ?_
 simp only [Bool.false_eq_true, if_false]
 refine wpS_of_wp (wp_skip ?_)
 cases c₀
 simp_all [bodyPostS, results, Tryz.results39]
theorem find22 (f : S30) (d : DF) (h : All2 MakesF [f] [d]) (hn : d.name = nmA) (A9 : Option Addr) (c9 : Nat) (w : World) (g9 : Kd.C k30 w A9 1 [f]) (g12 : Kd.C k73 w none 0 []) : Calls Tryz.prog 22 #[.agg #[.slice A9 1 c9, .slice none 0 0], .string nmA] w fun e w' => (∃ b c, e = .returned (.tuple #[.slice (some ⟨b, 0, none⟩) 1 c, .bool true, .int .i64 1, .bool true]) ∧ w'.cell? ⟨b, 0, none⟩ = some (.int .i64 0)) ∧ Below w.heap.size w w' := by
 have HH := Aside0.mk (And.intro h (And.intro hn (And.intro g9 g12)))
 clear h hn g9 g12
 have hmf : ∀ (fn : Fn) (first cap : Array Value) (w : World), (Instr.makeFunc fn first cap).run Tryz.prog w = .ok (.func fn first cap) w := fun _ _ _ _ => rfl
 go_enter_defers Tryz.func22, Tryz.ntmps22
 go_wp2_with (go_at_call 24; fail)
 clear hmf
 refine calls_at ?_
 intro w1 hw1
 have b1 : Below w.heap.size w w1 := by rw [hw1]; repeat (first | exact Below.refl _ _ | apply b1_ | apply b2_ | apply b3_)
 have r4 : w1.heap[w.heap.size + 1]? = some (.cells #[.slice none 0 0] 26 (0, 0)) := by rw [hw1]; exact blk_alloc_ (blk_alloc_ (blk_alloc_ (blk_new_at (by simp [alloc_size_]))))
 have r5 : w1.heap[w.heap.size + 2]? = some (.cells #[.bool false] 4 (0, 0)) := by rw [hw1]; exact blk_alloc_ (blk_alloc_ (blk_new_at (by simp [alloc_size_])))
 have r6 : w1.heap[w.heap.size + 3]? = some (.cells #[.int .i64 0] 3 (0, 0)) := by rw [hw1]; exact blk_alloc_ (blk_new_at (by simp [alloc_size_]))
 have r7 : w1.heap[w.heap.size + 4]? = some (.cells #[.bool false] 4 (0, 0)) := by rw [hw1]; exact blk_new_at (by simp [alloc_size_])
 clear hw1
 refine (sch24 grpA [f] [d] HH.out.1 (by simp) (fun x hx => by
  obtain rfl : x = d := by simpa using hx
  rw [HH.out.2.1]
  exact ⟨by decide, rfl⟩) [] (by simp) A9 none c9 0 w1 (Kd.C_below HH.out.2.2.1 b1) (Kd.C_below HH.out.2.2.2 b1)).mono ?_
 rintro e w2 ⟨⟨T, rfl, hS⟩, hb2⟩
 have HS := Aside0.mk hS
 have HR := Aside0.mk (And.intro (blk_below r4 hb2) (And.intro (blk_below r5 hb2) (And.intro (blk_below r6 hb2) (And.intro (blk_below r7 hb2) (below_step b1 hb2)))))
 clear b1 hb2 hS r4 r5 r6 r7
 go_wp2_with (go_at_call 40; fail)
 obtain ⟨hT0, F, arr, M, K, k, V, v, ok, hb, _, _, _, _, _, B, hG⟩ := HS.out
 simp only [List.length_cons, List.length_nil, Nat.zero_add] at hb hG
 have HB := Aside0.mk (And.intro hb hG)
 refine (find40 T M B w2 ((blk_cell hb 1).trans rfl) hG).mono ?_
 clear hb hG hT0
 rintro e w3 ⟨⟨b, c, rfl, hc, hl0⟩, hb3⟩
 have HC := Aside0.mk (And.intro hc hb3)
 have HL := Aside0.mk (show w.heap.size + 4 < b from by have := blk_lt HR.out.2.2.2.1; omega)
 clear hc hb3 hl0
 go_wp2_with (go_at_call 41; fail)
 refine (find41 T M B w3 ((blk_cell (blk_below HB.out.1 HC.out.2) 1).trans rfl) (grpA.below HB.out.2 HC.out.2)).mono ?_
 rintro e w4 ⟨rfl, hb4⟩
 have HD := Aside0.mk hb4
 clear hb4
 go_wp2_with (go_at_call 42; fail)
 refine (num42 T 1 1 (some ⟨F, 0, none⟩) w4 ((blk_cell (blk_below (blk_below HB.out.1 HC.out.2) HD.out) 0).trans rfl)).mono ?_
 rintro e w5 ⟨rfl, hb5⟩
 have HE := Aside0.mk hb5
 clear hb5
 have b35 : Aside0 (Below w2.heap.size w2 w5) := ⟨below_step (below_step HC.out.2 HD.out) HE.out⟩
 have r4 : w5.heap[w.heap.size + 1]? = some (.cells #[.slice none 0 0] 26 (0, 0)) := blk_below HR.out.1 b35.out
 have r5 : w5.heap[w.heap.size + 1 + 1]? = some (.cells #[.bool false] 4 (0, 0)) := blk_below HR.out.2.1 b35.out
 have r6 : w5.heap[w.heap.size + 1 + 1 + 1]? = some (.cells #[.int .i64 0] 3 (0, 0)) := blk_below HR.out.2.2.1 b35.out
 have r7 : w5.heap[w.heap.size + 1 + 1 + 1 + 1]? = some (.cells #[.bool false] 4 (0, 0)) := blk_below HR.out.2.2.2.1 b35.out
 have x4 := (blk_cell r4 0).trans (show _ = some (.slice none 0 0 : Value) from rfl)
 have x5 := (blk_cell r5 0).trans (show _ = some (.bool false : Value) from rfl)
 have x6 := (blk_cell r6 0).trans (show _ = some (.int .i64 0 : Value) from rfl)
 have x7 := (blk_cell r7 0).trans (show _ = some (.bool false : Value) from rfl)
 have f4 := blk_frozen r4 0
 have f5 := blk_frozen r5 0
 have f6 := blk_frozen r6 0
 have f7 := blk_frozen r7 0
 have RR := Aside0.mk (And.intro r4 (And.intro r5 (And.intro r6 (And.intro r7 (And.intro (cell_step HC.out.1 (below_step HD.out HE.out)) (below_step HR.out.2.2.2.2 b35.out))))))
 clear r4 r5 r6 r7
 go_wp2
 refine leaves_cons (f := 39) (args := #[.pointer (some ⟨w.heap.size + 1, 0, none⟩), .pointer (some ⟨w.heap.size + 1 + 1, 0, none⟩), .pointer (some ⟨w.heap.size + 1 + 1 + 1, 0, none⟩), .pointer (some ⟨w.heap.size + 1 + 1 + 1 + 1, 0, none⟩)]) (by simp) (by simp [go_sem]) ?_
 refine (catch39 _ _ _ _ _).mono ?_
 rintro e u' w'' ⟨rfl, rfl, rfl⟩
 obtain ⟨q4, q5, q6, q7, qb, bF⟩ := RR.out
 have hL := HL.out
 clear x4 x5 x6 x7 f4 f5 f6 f7 RR HL HR HC HD HE HB HS HH b35
 obtain ⟨w6, hw6⟩ : ∃ w6, w6 = (((w5.setCell ⟨w.heap.size + 1, 0, none⟩ (.slice (some ⟨b, 0, none⟩) 1 c)).setCell ⟨w.heap.size + 1 + 1, 0, none⟩ (.bool true)).setCell ⟨w.heap.size + 1 + 1 + 1, 0, none⟩ (.int .i64 1)).setCell ⟨w.heap.size + 1 + 1 + 1 + 1, 0, none⟩ (.bool true) := ⟨_, rfl⟩
 rw [← hw6]
 have n4 : w6.heap[w.heap.size + 1]? = some (.cells #[.slice (some ⟨b, 0, none⟩) 1 c] 26 (0, 0)) := by rw [hw6]; exact blk_other_ (by omega) (blk_other_ (by omega) (blk_other_ (by omega) (blk_put_at q4 rfl)))
 have n5 : w6.heap[w.heap.size + 1 + 1]? = some (.cells #[.bool true] 4 (0, 0)) := by rw [hw6]; exact blk_other_ (by omega) (blk_other_ (by omega) (blk_put_at (blk_other_ (by omega) q5) rfl))
 have n6 : w6.heap[w.heap.size + 1 + 1 + 1]? = some (.cells #[.int .i64 1] 3 (0, 0)) := by rw [hw6]; exact blk_other_ (by omega) (blk_put_at (blk_other_ (by omega) (blk_other_ (by omega) q6)) rfl)
 have n7 : w6.heap[w.heap.size + 1 + 1 + 1 + 1]? = some (.cells #[.bool true] 4 (0, 0)) := by rw [hw6]; exact blk_put_at (blk_other_ (by omega) (blk_other_ (by omega) (blk_other_ (by omega) q7))) rfl
 have nb : w6.cell? ⟨b, 0, none⟩ = some (.int .i64 0) := by
  rw [hw6]
  exact (cell_far (by dsimp only; omega)).trans ((cell_far (by dsimp only; omega)).trans ((cell_far (by dsimp only; omega)).trans ((cell_far (by dsimp only; omega)).trans qb)))
 have bw : Below w.heap.size w w6 := by
  rw [hw6]
  exact (((bF.setCell (by dsimp only; omega) _).setCell (by dsimp only; omega) _).setCell (by dsimp only; omega) _).setCell (by dsimp only; omega) _
 have e4 := (blk_cell n4 0).trans (show _ = some (.slice (some ⟨b, 0, none⟩) 1 c : Value) from rfl)
 have e5 := (blk_cell n5 0).trans (show _ = some (.bool true : Value) from rfl)
 have e6 := (blk_cell n6 0).trans (show _ = some (.int .i64 1 : Value) from rfl)
 have e7 := (blk_cell n7 0).trans (show _ = some (.bool true : Value) from rfl)
 clear hw6 n4 n5 n6 n7 q4 q5 q6 q7
 simp [Leaves, settle, results, Tryz.results22, go_sem, e4, e5, e6, e7]
 exact ⟨nb, bw⟩
theorem finds10 (w : World) : Calls Tryz.prog 10 #[] w fun e w' => e = .returned (.bool true) ∧ Below w.heap.size w w' := by
 go_enter Tryz.func10, Tryz.ntmps10
 go_wp2_with (go_at_call 22; fail)
 refine calls_at ?_
 intro w1 hw1
 have b1 : Below w.heap.size w w1 := by rw [hw1]; repeat (first | exact Below.refl _ _ | apply b1_ | apply b2_ | apply b3_)
 have k1 : w1.heap[w.heap.size]? = some (.cells #[.string nmA, .bool false, .int .i64 6, .int .i64 0, .bool false, .int .i64 0, .int .i64 0, .int .i64 0, .string emp, .bool false, .slice none 0 0, .slice none 0 0, .slice none 0 0] 30 (0, 0)) := by rw [hw1]; exact blk_new _ _
 clear hw1
 have hB : RowB w1 w.heap.size (some ⟨w.heap.size, 0, none⟩) 1 [⟨nmA, false, ⟨6, 0, false, 0, 0, 0, emp, false, [], []⟩, []⟩] := ⟨by decide, by decide, fun _ => ⟨_, _, rfl, Nat.le_refl _, k1, ⟨_, [], (List.append_nil _).symm, ⟨rfl, [.int .i64 6, .int .i64 0, .bool false, .int .i64 0, .int .i64 0, .int .i64 0, .string emp, .bool false, .slice none 0 0, .slice none 0 0], rfl, ⟨none, 0, none, 0, rfl, by decide, by decide, by decide, by decide, fun h => absurd h (by decide), fun h => absurd h (by decide)⟩⟩, trivial⟩⟩⟩
 have hTD : TD 4 ⟨6, 0, false, 0, 0, 0, emp, false, [], []⟩ (.zero 104) := TDs.zero 6 0 false 0 104 (by decide)
 have hM := SF.makes (.cons ⟨nmA, false, _, _, rfl, rfl, hTD, by decide⟩ .nil : All2 SF [⟨nmA, false, ⟨6, 0, false, 0, 0, 0, emp, false, [], []⟩, []⟩] [.mk nmA (.zero 104) false])
 refine (find22 _ _ hM rfl (some ⟨w.heap.size, 0, none⟩) 1 w1 (rowB_C hB).2 (Kd.C_nil _ _)).mono ?_
 rintro e w2 ⟨⟨b, c, rfl, hc⟩, hb2⟩
 have HE := Aside0.mk (below_step b1 hb2)
 clear b1 k1 hB hTD hM hb2
 go_wp2
 go_ret
 exact ⟨rfl, HE.out⟩
end Go.Proofs.YteebgnhhjlgnjaaGreatDoor.V
