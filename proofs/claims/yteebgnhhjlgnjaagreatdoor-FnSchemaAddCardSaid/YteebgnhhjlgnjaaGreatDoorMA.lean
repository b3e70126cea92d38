/- arrow.MapOfFields, and what StructOf's answer is. -/
import Derived.Test.YteebgnhhjlgnjaaGreatDoorST
import Derived.Test.YteebgnhhjlgnjaaGreatDoorAT1
import Derived.Test.YteebgnhhjlgnjaaGreatDoorUN1
namespace Go.Proofs.YteebgnhhjlgnjaaGreatDoor.V
open Go.RowKit Go.Proofs.YteebgnhhjlgnjaaGreatDoorW.PrintWords Go.Proofs.YteebgnhhjlgnjaaGreatDoorW.PrintLast Go.Proofs.YteebgnhhjlgnjaaGreatDoorW.PrintMore
set_option maxHeartbeats 40000000
set_option maxRecDepth 100000
set_option linter.unusedVariables false
set_option linter.unusedSimpArgs false
theorem dfs_of {W : World} {ok : Nat → Prop} : ∀ (ds : List DF) (l : List Value), l.length = ds.length * 5 → (∀ (j : Nat) (hj : j < ds.length), DFIn W ok ds[j] ((l.drop (j * 5)).take 5)) → DFsIn W ok ds l
 | [], l, _, _ => trivial
 | d :: r, l, hl, h => by
  simp only [List.length_cons] at hl
  refine ⟨l.take 5, l.drop 5, (List.take_append_drop 5 l).symm, ?_, dfs_of r (l.drop 5) (by rw [List.length_drop]; omega) (fun j hj => ?_)⟩
  ·have := h 0 (by simp)
   simpa using this
  ·have := h (j + 1) (by simp; omega)
   rw [List.drop_drop]
   rw [show 5 + j * 5 = (j + 1) * 5 by omega]
   simpa using this
theorem DFIn.mono {W : World} {ok ok' : Nat → Prop} {f : DF} {cs : List Value} (h : DFIn W ok f cs) (hk : ∀ k, ok k → ok' k) : DFIn W ok' f cs := DFIn.step (fun k q cells ho _ _ hc => ⟨hc, hk k ho⟩) h
theorem FRow.all {W : World} {ok ok' : Nat → Prop} {F : Nat} {ds : List DF} {i : Nat} (h : FRow W ok F ds i) (hi : ds.length ≤ i) (hk : ∀ k, ok k → ok' k) : ∃ arr, W.heap[F]? = some (.cells arr 61 (0, 0)) ∧ DFsIn W ok' ds arr.toList := by
 obtain ⟨arr, h1, h2, h3⟩ := h
 exact ⟨arr, h1, dfs_of ds arr.toList (by simpa using h2) (fun j hj => (h3 j hj (by omega)).mono hk)⟩
theorem struct_in {W : World} {ok ok' : Nat → Prop} {g F : Nat} {M : Option Nat} {ds : List DF} (hl : ds.length < 2 ^ 30) (hg : W.heap[g]? = some (.cells #[.slice (some ⟨F, 0, none⟩) ds.length ds.length, .map M, .slice none 0 0, .slice none 0 0] 167 (0, 0))) (hF : FRow W ok F ds ds.length) (hk : ∀ k, ok k → ok' k) (og : ok' g) (oF : ok' F) : DTIn W ok' (.struct ds) (ptrAt 165 g) := by
 obtain ⟨arr, h1, h2⟩ := hF.all (Nat.le_refl _) hk
 exact ⟨g, some ⟨F, 0, none⟩, ds.length, M, rfl, og, hg, Nat.le_refl _, by omega, fun _ => ⟨F, arr, rfl, oF, h1, h2⟩⟩
def nmKey : ByteArray := ⟨#[107, 101, 121]⟩
def nmValue : ByteArray := ⟨#[118, 97, 108, 117, 101]⟩
def nmEntries : ByteArray := ⟨#[101, 110, 116, 114, 105, 101, 115]⟩
theorem map94 (nk nv : ByteArray) (bv : Bool) (qk qv : Nat) (ak av : Addr) (dk dv : DT) (okA : Nat → Prop) (w : World) (hA : ∀ k, okA k → k < w.heap.size) (hk : DTIn w okA dk (.iface qk (.pointer (some ak)))) (hv : DTIn w okA dv (.iface qv (.pointer (some av)))) :
 Calls Tryz.prog 94 #[.agg #[.string nk, .iface qk (.pointer (some ak)), .bool false, .slice none 0 0, .slice none 0 0], .agg #[.string nv, .iface qv (.pointer (some av)), .bool bv, .slice none 0 0, .slice none 0 0]] w fun e w' =>
  ∃ g b cs, e = .returned (.pointer (some ⟨g, 0, none⟩)) ∧ w.heap.size ≤ g ∧ w.heap.size ≤ b ∧ w'.heap[g]? = some (.cells #[.pointer (some ⟨b, 0, none⟩), .bool false] 163 (0, 0)) ∧ w'.heap[b]? = some (.cells (List.toArray cs) 157 (0, 0)) ∧
   DFIn w' (fun k => (okA k ∨ w.heap.size ≤ k) ∧ k < g) (.mk nmEntries (.struct [.mk nmKey dk false, .mk nmValue dv bv]) false) cs ∧ Below w.heap.size w w' := by
 have HH := Aside0.mk (And.intro hA (And.intro hk hv))
 clear hA hk hv
 go_enter Tryz.func94, Tryz.ntmps94
 go_wp2_with (go_at_call 85; fail)
 refine calls_at ?_
 intro w0 hw0
 obtain ⟨hA, hk, hv⟩ := HH.out
 have b0 : Below w.heap.size w w0 := by rw [hw0]; repeat (first | exact Below.refl _ _ | apply b1_)
 have r0 : w0.heap[w.heap.size + 1 + 1]? = some (.cells #[.string nmKey, .iface qk (.pointer (some ak)), .bool false, .slice none 0 0, .slice none 0 0, .string nmValue, .iface qv (.pointer (some av)), .bool bv, .slice none 0 0, .slice none 0 0] 61 (0, 0)) := by rw [hw0]; exact blk_new_at (by simp)
 have hk0 := hk.below b0
 have hv0 := hv.below b0
 have hA0 : ∀ k, okA k → k < w0.heap.size := fun k h => Nat.lt_of_lt_of_le (hA k h) b0.size
 clear hw0 hk hv
 have hrow : RowAt w0 okA (some ⟨w.heap.size + 1 + 1, 0, none⟩) [.mk nmKey dk false, .mk nmValue dv bv] := fun _ => ⟨_, rfl, fun j hj => by
  match j, hj with
  | 0, _ =>
   refine ⟨_, ⟨_, rfl, hk0⟩, fun i u hu => ?_⟩
   rw [add_plain, blk_cell r0, ← hu]
   match i with
   | 0 => rfl
   | 1 => rfl
   | 2 => rfl
   | 3 => rfl
   | 4 => rfl
   | n + 5 => cases hu
  | 1, _ =>
   refine ⟨_, ⟨_, rfl, hv0⟩, fun i u hu => ?_⟩
   rw [add_plain, blk_cell r0, ← hu]
   match i with
   | 0 => rfl
   | 1 => rfl
   | 2 => rfl
   | 3 => rfl
   | 4 => rfl
   | n + 5 => cases hu⟩
 refine (struct85 [.mk nmKey dk false, .mk nmValue dv bv] (show 0 < 2 by decide) (show 2 < 2 ^ 30 by decide) (fun d hd => ?_) _ 2 okA w0 hA0 hrow).mono ?_
 ·simp only [List.mem_cons, List.not_mem_nil, or_false] at hd
  rcases hd with rfl | rfl
  ·exact (show 3 ≤ maxLen by unfold maxLen; decide)
  ·exact (show 5 ≤ maxLen by unfold maxLen; decide)
 rintro e w1 ⟨g, F, M, rfl, hg, hT, hF, hrow1, hb⟩
 have HE := Aside0.mk (And.intro b0 (And.intro hg (And.intro hT (And.intro hF (And.intro hrow1 (And.intro hb hA))))))
 clear b0 r0 hk0 hv0 hA0 hrow hg hT hF hrow1 hb hA
 go_wp2_with (go_at_call 89; fail)
 refine (of89 nmEntries 165 (.pointer (some ⟨g, 0, none⟩)) false w1).mono ?_
 rintro e w2 ⟨b, rfl, hb1, hb2, hb3⟩
 have HF := Aside0.mk (And.intro hb1 (And.intro hb2 hb3))
 clear hb1 hb2 hb3
 go_wp2
 go_ret
 obtain ⟨b0, hg, hT, hF, hrow1, hb, hA⟩ := HE.out
 obtain ⟨hb1, hb2, hb3⟩ := HF.out
 have B1 := below_step b0 hb
 have B2 := below_step B1 hb3
 have z0 := b0.size
 have z1 := B1.size
 have z2 := B2.size
 have hst : DTIn w1 (fun k => okA k ∨ w.heap.size ≤ k) (.struct [.mk nmKey dk false, .mk nmValue dv bv]) (ptrAt 165 g) := struct_in (show 2 < 2 ^ 30 by decide) hT hrow1 (fun k h => .inl h) (.inr (by omega)) (.inr (by omega))
 refine ⟨w2.heap.size, b, _, rfl, by omega, by omega, blk_new_at rfl, blk_alloc_ hb2, ⟨_, rfl, DTIn.step (fun k q cells hk hl _ hc => ⟨blk_alloc_ hc, hk, hl⟩) (hst.below hb3)⟩, b1_ B2 _⟩
def emp : ByteArray := ⟨#[]⟩
def nmItem : ByteArray := ⟨#[105, 116, 101, 109]⟩
def nmRunEnds : ByteArray := ⟨#[114, 117, 110, 95, 101, 110, 100, 115]⟩
def nmValues : ByteArray := ⟨#[118, 97, 108, 117, 101, 115]⟩
def zeroTab : List (Int × Int × Bool × Int × Nat) := [(1, 0, false, 0, 101), (6, 0, false, 0, 104), (3, 16, false, 0, 106), (3, 32, false, 0, 108), (3, 64, false, 0, 110), (8, 0, false, 0, 112), (8, 0, false, 1, 114), (11, 0, false, 0, 127), (11, 0, false, 1, 129), (11, 0, false, 2, 131), (4, 0, false, 0, 133), (5, 0, false, 0, 135), (19, 0, false, 0, 137), (20, 0, false, 0, 139), (23, 0, false, 0, 141), (24, 0, false, 0, 143),
 (2, 8, true, 0, 198), (2, 16, true, 0, 200), (2, 32, true, 0, 202), (2, 64, true, 0, 204), (2, 8, false, 0, 206), (2, 16, false, 0, 208), (2, 32, false, 0, 210), (2, 64, false, 0, 212)]
def timeTab : List (Int × Nat) := [(0, 116), (1, 116), (2, 120), (3, 120)]
def decTab : List (Int × Nat) := [(32, 214), (64, 217), (128, 219), (256, 221)]
def listTab : List (Int × Nat) := [(12, 154), (21, 233), (25, 180), (26, 236)]
def unionTab : List (Int × Nat) := [(0, 224), (1, 226)]
def FD (sub : S28 → DT → Prop) (f : S30) (d : DF) : Prop := ∃ n T t, f = ⟨n, true, T, []⟩ ∧ d = .mk n t true ∧ sub T t ∧ n.size ≤ 50
inductive TDs (sub : S28 → DT → Prop) : S28 → DT → Prop
 | zero (k w : Int) (s : Bool) (u : Int) (t : Nat) (h : (k, w, s, u, t) ∈ zeroTab) : TDs sub ⟨k, w, s, u, 0, 0, emp, false, [], []⟩ (.zero t)
 | time (u : Int) (t : Nat) (h : (u, t) ∈ timeTab) : TDs sub ⟨9, 0, false, u, 0, 0, emp, false, [], []⟩ (.num t u)
 | stamp (u : Int) (z : ByteArray) (h0 : 0 ≤ u) (h1 : u ≤ 3) (h2 : z.size ≤ 50) : TDs sub ⟨10, 0, false, u, 0, 0, z, false, [], []⟩ (.stamp u z)
 | dur (u : Int) (h0 : 0 ≤ u) (h1 : u ≤ 3) : TDs sub ⟨18, 0, false, u, 0, 0, emp, false, [], []⟩ (.num 125 u)
 | dec (w : Int) (t : Nat) (p c : Int) (h : (w, t) ∈ decTab) (h0 : 1 ≤ p) (h1 : p ≤ 76) (h2 : -76 ≤ c) (h3 : c ≤ 76) : TDs sub ⟨7, w, false, 0, p, c, emp, false, [], []⟩ (.dec t p c)
 | fsb (w : Int) (h0 : 0 ≤ w) (h1 : w ≤ 1000) : TDs sub ⟨15, w, false, 0, 0, 0, emp, false, [], []⟩ (.num 145 w)
 | list (k : Int) (t : Nat) (T : S28) (d : DT) (h : (k, t) ∈ listTab) (hs : sub T d) : TDs sub ⟨k, 0, false, 0, 0, 0, emp, false, [], [⟨nmItem, true, T, []⟩]⟩ (.list t (.mk nmItem d true))
 | flist (w : Int) (T : S28) (d : DT) (h0 : 1 ≤ w) (h1 : w ≤ 1000) (hs : sub T d) : TDs sub ⟨16, w, false, 0, 0, 0, emp, false, [], [⟨nmItem, true, T, []⟩]⟩ (.flist w (.mk nmItem d true))
 | struct (fs : List S30) (ds : List DF) (h : All2 (FD sub) fs ds) (hl : fs.length ≤ 100) : TDs sub ⟨13, 0, false, 0, 0, 0, emp, false, [], fs⟩ (.struct ds)
 | map (K V : S28) (dk dv : DT) (fl : Bool) (he : sub ⟨13, 0, false, 0, 0, 0, emp, false, [], [⟨nmKey, false, K, []⟩, ⟨nmValue, true, V, []⟩]⟩ (.struct [.mk nmKey dk false, .mk nmValue dv true])) (hk : sub K dk) (hv : sub V dv) :
  TDs sub ⟨17, 0, false, 0, 0, 0, emp, fl, [], [⟨nmEntries, false, ⟨13, 0, false, 0, 0, 0, emp, false, [], [⟨nmKey, false, K, []⟩, ⟨nmValue, true, V, []⟩]⟩, []⟩]⟩ (.map (.mk nmEntries (.struct [.mk nmKey dk false, .mk nmValue dv true]) false) fl)
 | entries (K V : S28) (dk dv : DT) (hk : sub K dk) (hv : sub V dv) : TDs sub ⟨13, 0, false, 0, 0, 0, emp, false, [], [⟨nmKey, false, K, []⟩, ⟨nmValue, true, V, []⟩]⟩ (.struct [.mk nmKey dk false, .mk nmValue dv true])
 | union (u : Int) (t : Nat) (fs : List S30) (ds : List DF) (ids : List Int) (h : (u, t) ∈ unionTab) (hf : All2 (FD sub) fs ds) (h0 : 0 < fs.length) (hl : fs.length ≤ 100) (hi : ids.length = fs.length) (hr : ∀ x ∈ ids, 0 ≤ x ∧ x ≤ 126) (hd : ids.Nodup) :
  TDs sub ⟨14, 0, false, u, 0, 0, emp, false, ids, fs⟩ (.union t ds ids)
 | ree (R V : S28) (dr dv : DT) (hr : sub R dr) (hv : sub V dv) : TDs sub ⟨22, 0, false, 0, 0, 0, emp, false, [], [⟨nmRunEnds, false, R, []⟩, ⟨nmValues, true, V, []⟩]⟩ (.ree dr dv true)
 | dict (I V : S28) (di dv : DT) (fl : Bool) (hi : sub I di) (hv : sub V dv) : TDs sub ⟨27, 0, false, 0, 0, 0, emp, fl, [], [⟨emp, false, I, []⟩, ⟨emp, false, V, []⟩]⟩ (.dict di dv fl)
def TD : Nat → S28 → DT → Prop
 | 0 => fun _ _ => False
 | n + 1 => TDs (TD n)
def MakesT (T : S28) (d : DT) : Prop := ∀ (w : World) (A8 A9 : Option Addr) (c8 c9 : Nat), Kd.C (Kd.int .i64) w A8 T.f8.length T.f8 → Kd.C k30 w A9 T.f9.length T.f9 →
 Calls Tryz.prog 34 #[.agg #[.int .i64 T.f0, .int .i64 T.f1, .bool T.f2, .int .i64 T.f3, .int .i64 T.f4, .int .i64 T.f5, .string T.f6, .bool T.f7, .slice A8 T.f8.length c8, .slice A9 T.f9.length c9]] w (Made w d)
theorem makesF_of {T : S28} {d : DT} (h : MakesT T d) (n : ByteArray) (b : Bool) : MakesF ⟨n, b, T, []⟩ (.mk n d b) := by
 intro w cs hK
 obtain ⟨A10, c10, A11, c11, A12, c12, rfl, l10, g10, l11, g11, l12, g12⟩ := k30_open hK
 exact field26 n b T.f0 T.f1 T.f2 T.f3 T.f4 T.f5 T.f6 T.f7 A10 A11 A12 T.f8.length c10 T.f9.length c11 c12 d w (fun W hb => h W A10 A11 c10 c11 (Kd.C_below g10 hb) (Kd.C_below g11 hb))
theorem makesFD {sub : S28 → DT → Prop} (hs : ∀ T d, sub T d → MakesT T d) {fs : List S30} {ds : List DF} (h : All2 (FD sub) fs ds) : All2 MakesF fs ds := by
 induction h with
 | nil => exact .nil
 | cons hab _ ih =>
  obtain ⟨n, T, t, rfl, rfl, hT, _⟩ := hab
  exact .cons (makesF_of (hs T t hT) n true) ih
theorem row_of_R {W : World} {base : Nat} {ok : Nat → Prop} {v : Value} {ds : List DF} (h : Kd.R kDF 61 W base ok v ds) :
 ∃ A c, v = .slice A ds.length c ∧ ds.length ≤ c ∧ (∀ ad, A = some ad → ad.block < W.heap.size) ∧ (0 < ds.length → ∃ b arr, A = some ⟨b, 0, none⟩ ∧ base ≤ b ∧ W.heap[b]? = some (.cells arr 61 (0, 0)) ∧ ds.length * 5 ≤ arr.size ∧ ∀ (j : Nat) (hj : j < ds.length), DFIn W (fun k => base ≤ k) ds[j] ((arr.toList.drop (j * 5)).take 5)) := by
 obtain ⟨h0, inner, ho, hr⟩ := h
 rcases ho.2 with ⟨rfl, h1⟩ | ⟨g, cap, cur, rfl, hb, hg, hn, hm, hs, ht⟩
 ·exact ⟨none, 0, by rw [h1], by omega, fun ad e => (by cases e), fun hp => absurd hp (by omega)⟩
 ·refine ⟨_, cap, rfl, hn, fun ad e => (by cases e; exact blk_lt hg), fun _ => ⟨g, cur, rfl, hb, hg, ?_, fun j hj => ?_⟩⟩
  ·rw [hs]; exact Nat.mul_le_mul_right _ hn
  ·have h2 : DFIn W _ ds[j] ((inner.drop (j * 5)).take 5) := hr.2 j ds[j] (List.getElem?_eq_getElem hj)
   have e : (inner.drop (j * 5)).take 5 = (cur.toList.drop (j * 5)).take 5 := by
    rw [← ht]
    show ((cur.toList.take (ds.length * 5)).drop (j * 5)).take 5 = _
    rw [List.drop_take, List.take_take, Nat.min_eq_left (by omega)]
   rw [e] at h2
   exact h2.mono (fun k hk => hk.2)
theorem rowAt_of {W : World} {ok : Nat → Prop} {b : Nat} {arr : Array Value} {ds : List DF} (hb : W.heap[b]? = some (.cells arr 61 (0, 0))) (hs : ds.length * 5 ≤ arr.size) (h : ∀ (j : Nat) (hj : j < ds.length), DFIn W ok ds[j] ((arr.toList.drop (j * 5)).take 5)) : RowAt W ok (some ⟨b, 0, none⟩) ds := fun _ => ⟨_, rfl, fun j hj => ⟨_, h j hj, fun i u hu => by
 rw [add_plain, blk_cell hb]
 rw [List.getElem?_take] at hu
 split at hu
 ·rw [List.getElem?_drop, Array.getElem?_toList] at hu
  exact hu
 ·cases hu⟩⟩
theorem dfs_of_row {W : World} {ok : Nat → Prop} : ∀ (ds : List DF) (l : List Value), ds.length * 5 ≤ l.length → (∀ (j : Nat) (hj : j < ds.length), DFIn W ok ds[j] ((l.drop (j * 5)).take 5)) → DFsIn W ok ds l
 | [], l, _, _ => trivial
 | d :: r, l, hl, h => by
  simp only [List.length_cons] at hl
  refine ⟨l.take 5, l.drop 5, (List.take_append_drop 5 l).symm, ?_, dfs_of_row r (l.drop 5) (by rw [List.length_drop]; omega) (fun j hj => ?_)⟩
  ·have := h 0 (by simp)
   simpa using this
  ·have := h (j + 1) (by simp; omega)
   rw [List.drop_drop]
   rw [show 5 + j * 5 = (j + 1) * 5 by omega]
   simpa using this
end Go.Proofs.YteebgnhhjlgnjaaGreatDoor.V
