/- impl.metaBack of any pairs. -/
import Derived.Test.YteebgnhhjlgnjaaGreatDoorB8
import Derived.Test.YteebgnhhjlgnjaaGreatDoorMP
namespace Go.Proofs.YteebgnhhjlgnjaaGreatDoor.V
open Go.RowKit Go.Proofs.YteebgnhhjlgnjaaGreatDoorW.PrintWords Go.Proofs.YteebgnhhjlgnjaaGreatDoorW.PrintLast Go.Proofs.YteebgnhhjlgnjaaGreatDoorW.PrintMore
set_option maxHeartbeats 40000000
set_option maxRecDepth 100000
set_option linter.unusedVariables false
set_option linter.unusedSimpArgs false
theorem info73_ : (Tryz.prog.info? 73).map (fun i => (i.zero, i.size, i.bytes)) = some (some (.agg #[.string ⟨#[]⟩, .string ⟨#[]⟩]), 2, 32) := by kernel_rfl
theorem str_get {W : World} {A : Option Addr} {n : Nat} (h : StrAt W A n) (i : Nat) (hi : i < n) : ∃ ad s, A = some ad ∧ W.cell? (ad.add i) = some (.string s) := by
 obtain ⟨ss, h1, h2⟩ := h
 obtain ⟨b, cur, e, hb, h3⟩ := h2 (by omega)
 refine ⟨_, ss[i]'(by omega), e, ?_⟩
 rw [add0_, blk_cell hb]
 exact h3 i _ (List.getElem?_eq_getElem (by omega))
theorem slice_of_own {W : World} {base n sz : Nat} {e : TypeId} {v : Value} {xs : List Value} (h : W.ownsRow base e sz v n xs) : ∃ A c, v = .slice A n c := by
 rcases h.2 with ⟨rfl, rfl⟩ | ⟨g, cap, cur, rfl, _⟩
 ·exact ⟨none, 0, rfl⟩
 ·exact ⟨_, _, rfl⟩
theorem meta50n (n : Nat) (K V : Option Addr) (k v : Nat) (hn : n ≤ 1000) (w : World) (hK : StrAt w K n) (hV : StrAt w V n) :
 Calls Tryz.prog 50 #[.agg #[.slice K n k, .slice V n v]] w fun e w' => (∃ A m c, e = .returned (.slice A m c)) ∧ Below w.heap.size w w' := by
 have HH := Aside0.mk (And.intro hK (And.intro hV hn))
 clear hK hV hn
 go_enter Tryz.func50, Tryz.ntmps50
 go_wp2_with (go_at_call 80; fail)
 refine calls_at ?_
 intro w1 hw1
 have b1 : Below w.heap.size w w1 := by rw [hw1]; repeat (first | exact Below.refl _ _ | apply b1_ | apply b2_ | apply b3_)
 have k1 : w1.heap[w.heap.size]? = some (.cells #[.slice K n k, .slice V n v] 59 (0, 0)) := by rw [hw1]; exact blk_new_at rfl
 clear hw1
 refine (keys80 K n k V n v w1).mono ?_
 rintro e w2 ⟨rfl, hb⟩
 have HB := Aside0.mk (And.intro (below_step b1 hb) (blk_below k1 hb))
 clear b1 k1 hb
 go_wp2
 go_loopg [3, 9] n (fun kq v3 v9 wr => ∃ i : Nat, v9 = .int .i64 (i : Int) ∧ Aside0 (i + kq = n ∧ Below w.heap.size w wr ∧ wr.heap[w.heap.size]? = some (.cells #[.slice K n k, .slice V n v] 59 (0, 0)) ∧ ∃ ps : List S73, ps.length = i ∧ Kd.R k73 73 wr w.heap.size (fun _ => True) v3 ps))
 case atStart => exact ⟨0, rfl, ⟨⟨by omega, HB.out.1, HB.out.2, [], rfl, Kd.R_nil _ _ _ _ _⟩⟩⟩
 case round =>
  obtain ⟨i, rfl, hA⟩ := hrel
  by_cases hi : i < n
  ·have hd : decide ((i : Int) < (n : Int)) = true := by simpa using hi
   obtain ⟨a1, a2, a3, ps, a4, a5⟩ := hA.out
   obtain ⟨ad, s, rfl, g0⟩ := str_get (HH.out.1.below a2) i hi
   obtain ⟨ad', s', rfl, g1⟩ := str_get (HH.out.2.1.below a2) i hi
   have y0 := (blk_cell a3 0).trans (show _ = some (.slice (some ad) n k : Value) from rfl)
   have y1 := (blk_cell a3 1).trans (show _ = some (.slice (some ad') n v : Value) from rfl)
   have e1 : wrap64 ((i : Int) + 1) = ((i + 1 : Nat) : Int) := by have := HH.out.2.2; rw [w64_id _ (by omega) (by omega)]; omega
   have E1 := Aside0.mk (And.intro e1 (show i ≤ 1000 from by have := HH.out.2.2; omega))
   have HA := Aside0.mk (And.intro a2 (And.intro a3 (And.intro a5 (And.intro a4 g1))))
   have qi : (i < n) = True := eq_true hi
   have qi' : ((i : Int) < (n : Int)) = True := eq_true (by omega)
   clear e1 a1 a2 a3 a4 a5 g1
   go_wp2_with (go_at_call 81; fail)
   refine calls_at ?_
   intro w3 hw3
   have b3 : Below wr.heap.size wr w3 := by rw [hw3]; repeat (first | exact Below.refl _ _ | apply b1_ | apply b2_ | apply b3_)
   clear hw3
   refine (values81 (some ad) n k (some ad') n v w3).mono ?_
   rintro e w4 ⟨rfl, hb4⟩
   have b4 := below_step b3 hb4
   have x1 := pw_cell_below b4 HA.out.2.2.2.2
   have HW := Aside0.mk (And.intro (below_step HA.out.1 b4) (And.intro (blk_below HA.out.2.1 b4) (Kd.R_below HA.out.2.2.1 b4)))
   clear b3 hb4 b4 y0 y1 g0
   go_wp2_with ((with_reducible refine gate_builtin (b := .append) (xs := #[.tmp 14, .tmp 22]) rfl ?_); at_builtin; refine Kd.R_append k73 (w0 := w) w.heap.size rfl (.tmp 14) (.tmp 22) 23 73 _ 32 rfl Tryz.underlying23 info73_ rfl (by decide) (by decide) u3 ps ⟨s, s'⟩ [.string s, .string s'] (fun _ => True) (fun _ => False) rfl rfl ?aP ?aK ?aF ?aO ?aB ?aS ?aL ?_; (case aP => exact ⟨[.string s], [.string s'], rfl, rfl, rfl⟩); (case aK => exact fun k hk => hk.elim); (case aF => exact fun _ _ => trivial); (case aO => exact HW.out.2.2); (case aB => exact HW.out.1); (case aS => exact HW.out.1.size); (case aL => have := E1.out.2; have := HA.out.2.2.2.1; omega); intro v1 w5 hr2 hb2 hg2 hat2; have HG := Aside0.mk (And.intro hr2 (And.intro hb2 hg2)); clear hr2 hb2 hg2 hat2)
   have h1 := hA.out.1
   go_roundg (n - (i + 1))
   case measure => omega
   case rel =>
    refine ⟨i + 1, by first | go_num | (rw [E1.out.1]), ⟨⟨by omega, HG.out.2.1, ?_, _, ?_, HG.out.1⟩⟩⟩
    ·have ho := (Kd.R_own HW.out.2.2)
     obtain ⟨inner, ho⟩ := ho
     refine grown_blk HG.out.2.2 HW.out.2.1 (fun he => ?_)
     obtain ⟨cells, hc⟩ := own_typed ho _ he.symm
     rw [HW.out.2.1] at hc
     injection hc with hc
     injection hc with _ hc
     exact absurd hc (by decide)
    ·have := HA.out.2.2.2.1
     simp [this]
  ·have hd : decide ((i : Int) < (n : Int)) = false := by simpa using hi
   go_wp2
   go_ret
   obtain ⟨a1, a2, a3, ps, a4, a5⟩ := hA.out
   obtain ⟨inner, ho⟩ := Kd.R_own a5
   obtain ⟨A, c, rfl⟩ := slice_of_own ho
   exact ⟨⟨A, _, c, rfl⟩, a2⟩
open Go.Maps Go.WideElems Go.MapKept
structure GSys (NM : ByteArray → Prop) (G : World → Nat → Nat → Nat → Prop) : Prop where
 made : ∀ w : World, G (w.alloc (.map #[] 0)) (w.heap.size + 1) w.heap.size 0
 kept : ∀ {w w' : World} {base m n : Nat} {row : Option Nat}, G w base m n → w.grownBy w' row → (∀ g, row = some g → ∃ cs t, w.heap[g]? = some (.cells cs t (0, 0)) ∧ t ≠ 3) → G w' base m n
 map : ∀ {w : World} {base m n : Nat}, G w base m n → ∃ es clock, w.heap[m]? = some (.map es clock)
 look : ∀ {w : World} {base m n : Nat}, G w base m n → n < maxLen → ∀ s : ByteArray, NM s → s.size ≤ maxLen → ∃ v zs, (Instr.lookup 82 (.map (some m)) (.string s) false).run Tryz.prog w = .ok v w ∧ w.ownsInts base 3 .i64 v zs ∧ zs.length ≤ n ∧
  ∀ (w1 : World) (v' : Value), w.grownBy w1 v.ownBlock → w1.ownsInts base 3 .i64 v' (zs ++ [(n : Int)]) → (v'.ownBlock = v.ownBlock ∨ ∃ g, v'.ownBlock = some g ∧ w.heap.size ≤ g) → ∃ w2, (Instr.mapUpdate 82 (.map (some m)) (.string s) v').run Tryz.prog w1 = .ok () w2 ∧ G w2 base m (n + 1) ∧ w1.grownBy w2 (some m)
theorem GSys.below {NM : ByteArray → Prop} {G : World → Nat → Nat → Nat → Prop} (hG : GSys NM G) {w w' : World} {base m n : Nat} (h : G w base m n) (hb : Below w.heap.size w w') : G w' base m n := hG.kept (row := none) h (grown_of_below hb none) (fun g e => by cases e)
theorem grpAll : GSys (fun _ => True) Grp where
 made := Grp.made
 kept := fun h hg ht => h.kept hg ht
 map := Grp.map
 look := fun {w base m n} h hn s _ hs => by
  obtain ⟨v, ok, zs, _, h2, h3, h4, hback⟩ := h.look hn s hs
  exact ⟨v, zs, h2, h3, h4, fun w1 v' hg ho hat => hback w1 v' _ hg ho (by simp; omega) hat⟩
end Go.Proofs.YteebgnhhjlgnjaaGreatDoor.V
