/- What TypeEqual asks of unions. -/
import Derived.Test.YteebgnhhjlgnjaaGreatDoorD0
import Derived.Test.YteebgnhhjlgnjaaGreatDoorE2
import Derived.Laws.CopyRow
import Derived.Laws.CopyOwn
import Derived.Test.YteebgnhhjlgnjaaGreatDoorUN1
namespace Go.Proofs.YteebgnhhjlgnjaaGreatDoor.V
open Go.RowKit Go.Proofs.YteebgnhhjlgnjaaGreatDoorW.PrintWords Go.Proofs.YteebgnhhjlgnjaaGreatDoorW.PrintLast Go.Proofs.YteebgnhhjlgnjaaGreatDoorW.PrintMore
set_option maxHeartbeats 40000000
set_option maxRecDepth 100000
set_option linter.unusedVariables false
set_option linter.unusedSimpArgs false
theorem codes118 (g : Nat) (B : Option Addr) (m e : Nat) (w : World) (h : w.cell? ⟨g, 1, none⟩ = some (.slice B m e)) : Calls Tryz.prog 118 #[.pointer (some ⟨g, 0, none⟩)] w fun e' w' => e' = .returned (.slice B m e) ∧ Below w.heap.size w w' := by
 go_enter Tryz.func118, Tryz.ntmps118
 go_wp2
 go_ret
 exact ⟨rfl, bl⟩
theorem copy5 (w : World) (g n dCap sCap : Nat) (a : Addr) (cur : Array Value) (t : TypeId) (cs : List Value) (hg : w.heap[g]? = some (.cells cur t (0, 0))) (hn : cs.length = n * 5)
 (hsrc : ∀ j v, cs[j]? = some v → w.cell? (a.add j) = some v) (hfit : cs.length ≤ cur.size) (h1 : ∀ v ∈ cs, v.oneCell' = true) :
 (Builtin.copy_ #[79, 79] 3 #[.slice (some ⟨g, 0, none⟩) n dCap, .slice (some a) n sCap]).run Tryz.prog w = .ok (goInt n) (w.setRow g (cs ++ cur.toList.drop cs.length).toArray) := by
 have hl := run_loadCells_list (P := Tryz.prog) w a cs hsrc
 have hst := run_storeCells_at Tryz.prog g 0 t cs 0 cur w hg (by simpa using hfit) h1
 obtain ⟨i0, hi, hz, hs, hb⟩ := info_parts61
 rw [hn] at hl
 simp [Builtin.copy_, run_underlying Tryz.underlying79, Builtin.lenOf, Builtin.firstCells, sizeOf, typeInfo, hi, hs, hl]
 have hst2 : (storeCells ⟨g, 0, none⟩ cs).run Tryz.prog w = .ok () (w.setRow g (cs ++ cur.toList.drop (n * 5)).toArray) := by simpa [hn] using hst
 rw [hst2, hn]
 rfl
theorem dfs_one {W : World} {ok : Nat → Prop} : ∀ {fs : List DF} {l : List Value}, DFsIn W ok fs l → ∀ u ∈ l.take (fs.length * 5), u.oneCell' = true
 | [], l, _, u, hu => by simp at hu
 | f :: r, l, h, u, hu => by
  obtain ⟨c, rest, rfl, hf, hr⟩ := h
  have hc := hf.len
  rw [show (f :: r).length * 5 = c.length + r.length * 5 from by rw [hc]; simp; omega, List.take_append] at hu
  rcases List.mem_append.mp hu with hu | hu
  ·exact hf.one u (List.mem_of_mem_take hu)
  ·exact dfs_one hr u (by simpa using hu)
theorem dfs_len {W : World} {ok : Nat → Prop} : ∀ {fs : List DF} {l : List Value}, DFsIn W ok fs l → fs.length * 5 ≤ l.length
 | [], l, _ => by simp
 | f :: r, l, h => by
  obtain ⟨c, rest, rfl, hf, hr⟩ := h
  have hc := hf.len
  have := dfs_len hr
  simp
  omega
theorem dfs_take {W : World} {ok : Nat → Prop} : ∀ {fs : List DF} {l : List Value}, DFsIn W ok fs l → DFsIn W ok fs (l.take (fs.length * 5))
 | [], l, _ => trivial
 | f :: r, l, h => by
  obtain ⟨c, rest, rfl, hf, hr⟩ := h
  have hc := hf.len
  refine ⟨c, rest.take (r.length * 5), ?_, hf, dfs_take hr⟩
  rw [show (f :: r).length * 5 = c.length + r.length * 5 from by rw [hc]; simp; omega, List.take_append]
  simp
  exact List.take_of_length_le (by omega)
theorem fields119 (g c : Nat) (A : Option Addr) (fs : List DF) (ok : Nat → Prop) (w : World) (h0 : 0 < fs.length) (hl : fs.length ≤ 100) (h : w.cell? ⟨g, 0, none⟩ = some (.slice A fs.length c)) (hF : FsAt w ok A fs) : Calls Tryz.prog 119 #[.pointer (some ⟨g, 0, none⟩)] w fun e' w' => (e' = .returned (.slice (some ⟨w.heap.size, 0, none⟩) fs.length fs.length) ∧ ∀ b, A = some ⟨b, 0, none⟩ → ∀ k v, k < fs.length * 5 → w.cell? ⟨b, k, none⟩ = some v → w'.cell? ⟨w.heap.size, k, none⟩ = some v) ∧ Below w.heap.size w w' := by
 obtain ⟨b, arr, rfl, hk, hb, hr⟩ := hF h0
 obtain ⟨n, hn⟩ : ∃ n, n = fs.length := ⟨_, rfl⟩
 obtain ⟨cs, hcs⟩ : ∃ cs, cs = arr.toList.take (fs.length * 5) := ⟨_, rfl⟩
 have hlen := dfs_len hr
 have hcl : cs.length = n * 5 := by rw [hcs, List.length_take, hn]; omega
 have hone : ∀ v ∈ cs, v.oneCell' = true := by rw [hcs]; exact dfs_one hr
 have hD : DFsIn w ok fs cs := by rw [hcs]; exact dfs_take hr
 have hsrc : ∀ j v, cs[j]? = some v → w.cell? ((⟨b, 0, none⟩ : Addr).add j) = some v := fun j v hv => by
  have e0 : (⟨b, 0, none⟩ : Addr).add j = ⟨b, j, none⟩ := by simp [Addr.add]; omega
  rw [e0, blk_cell hb, ← Array.getElem?_toList]
  rw [hcs] at hv
  have hj : j < fs.length * 5 := by
   have := List.getElem?_eq_some_iff.mp hv
   obtain ⟨h1, _⟩ := this
   rw [List.length_take] at h1
   omega
  rwa [List.getElem?_take_of_lt hj] at hv
 have HBK := Aside0.mk (show ∀ k v, k < n * 5 → w.cell? ⟨b, k, none⟩ = some v → cs[k]? = some v from fun k v hk hv => by rw [hcs, List.getElem?_take_of_lt (by rw [← hn]; exact hk), Array.getElem?_toList, ← blk_cell hb]; exact hv)
 have hmk := make61 n (by omega) w
 rw [← hn] at h ⊢
 have HN := Aside0.mk (And.intro hn hl)
 clear hF hr hlen hl h0 hcs hb hn hk
 go_enter Tryz.func119, Tryz.ntmps119
 go_upto_region 2 with fail
 clear hmk
 refine wp_at ?_
 intro w1 hw1
 have hb1 : Below w.heap.size w w1 := by rw [hw1]; exact (Below.refl _ _).alloc (Nat.le_refl _) _
 have hk1 : w1.heap[w.heap.size]? = some (.cells (madeCells #[.string ⟨#[]⟩, .nilIface, .bool false, .slice none 0 0, .slice none 0 0] (n * 5)) 61 (0, 0)) := by rw [hw1]; exact blk_new _ _
 clear hw1
 have hcp := copy5 w1 w.heap.size n n c ⟨b, 0, none⟩ _ 61 cs hk1 hcl (fun j v hv => pw_cell_below hb1 (hsrc j v hv)) (by rw [size_madeCells]; omega) hone
 replace h := pw_cell_below hb1 h
 have hnil : (madeCells #[.string ⟨#[]⟩, .nilIface, .bool false, .slice none 0 0, .slice none 0 0] (n * 5)).toList.drop cs.length = [] := List.drop_eq_nil_of_le (by rw [Array.length_toList, size_madeCells]; omega)
 rw [hnil, List.append_nil] at hcp
 have HB := Aside0.mk (And.intro hb1 (And.intro hk1 hD))
 clear hnil hk1 hb1 hD hsrc hone
 go_wp2
 go_ret
 have hr := setRow_heap w1 w.heap.size _ cs.toArray 61 (0, 0) HB.out.2.1
 refine ⟨⟨rfl, fun b' e k v hk hv => ?_⟩, below_setRow HB.out.1 (Nat.le_refl _) _⟩
 obtain rfl : b = b' := by injection e with e; injection e
 rw [blk_cell hr k]
 simpa using HBK.out k v hk hv
section
variable {P : Program} {md : Region.Mode} {ops : Array Oper} {Q : Exit → Act → World → Prop} {S : World → Prop} {ds : List Nat} {n m fuel : Nat} {oi : Oper} {v : Value} {a a' : Act} {w : World} {l : Array Bool}
theorem rn : AllReadyL P md ops Q S ds fuel l a w [] := AllReadyL.nil
theorem sb (i M : Nat) {l0 : List Nat} {ty t : TypeId} {x y : Operand} (g : Nat) {old : Array Value} (cells : Array Value) (hg : w.heap[g]? = some (.cells old t (0, 0))) (hsz : (P.info? ty).map (·.size) = some cells.size) (ho : old.size = cells.size) (h1 : cells.all (·.oneCell') = true)
 (hs' : S (w.setRow g cells)) (h : wpAnyLast P md ops Q S ds fuel (ba n M) a (w.setRow g cells))
 (hr : AllReadyL P md ops Q S ds fuel (ba n m) a w l0) (hi : ops[i]? = some oi := by exact rfl) (hN : oi.dst = none := by exact rfl)
 (hl : (ba n m).setIfInBounds i true = ba n M := by kernel_rfl) (hd : i ∉ ds := by decide) (hw : Region.wanted oi (yielded ops a.tmps) = true := by rfl) (hop : oi.op = .store ty x y := by exact rfl) (hx : a.eval x = .pointer (some ⟨g, 0, none⟩) := by rfl) (hy : a.eval y = .agg cells := by rfl) : AllReadyL P md ops Q S ds fuel (ba n m) a w (i :: l0) := by
 refine rs i M (w.setRow g cells) ?_ hs' h hr hi hN hl hd hw
 have hr := run_storeVar_row (P := P) w g t ty old cells hg hsz ho h1
 unfold execOp
 simp only [hop, hx, hy, Instr.storeAt, Instr.sureAddr, Sem.run_bind, Sem.run_pure, Result.andThen_ok, hr]
theorem mp (S' : World → Prop) (hS : S' w) (h : Kept S' → S' w → wpAnyLast P md ops Q S' [] fuel l a w)
 (hk : Kept S' := by refine ⟨fun _ _ hb hs => ?_⟩; (repeat (obtain ⟨_, hs⟩ := hs)); (repeat' apply And.intro) <;> first | exact pw_cell_below hb (by assumption) | exact below_step (by assumption) hb | exact blk_below (by assumption) hb)
 (himp : ∀ w, S' w → S w := by intro w' hs; (repeat (obtain ⟨_, hs⟩ := hs)); (repeat' apply And.intro) <;> assumption) : wpAnyLast P md ops Q S [] fuel l a w := more_ himp hS (h hk hS)
end
end Go.Proofs.YteebgnhhjlgnjaaGreatDoor.V
