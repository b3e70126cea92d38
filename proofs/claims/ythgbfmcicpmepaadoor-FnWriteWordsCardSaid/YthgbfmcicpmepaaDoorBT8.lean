/- A reader of words: its states, and what each call makes of them. -/
import Derived.Test.YthgbfmcicpmepaaDoorBT6
import Derived.Test.YthgbfmcicpmepaaDoorBT7
import Derived.Lib.Bytes
namespace Go.Proofs.YthgbfmcicpmepaaDoor.V
open Go.RowKit Go.Proofs.YthgbfmcicpmepaaDoor.B Go.Proofs.YthgbfmcicpmepaaDoorW.PrintWords Go.Proofs.YthgbfmcicpmepaaDoorW.PrintLast Go.Proofs.YthgbfmcicpmepaaDoorW.PrintMore
set_option linter.unusedVariables false
set_option linter.unusedSimpArgs false
theorem w64_id (a : Int) (h0 : 0 ≤ a) (h1 : a < 2 ^ 62) : wrap64 a = a := by unfold wrap64; omega
theorem Dat.less {w : World} {B O L L' : Nat} {D : Nat → Nat} (h : Dat w B O L D) (hL : L' ≤ L) : Dat w B O L' D := ⟨fun j hj => h.cell j (by omega), h.byte⟩
theorem pk_low (D : Nat → Nat) (s : Nat) (h : D s < 256) : pk D (8 * s) 64 % 256 = D s := by
  have := pk_split D (8 * s) 8 56
  rw [pk_byte D s h] at this
  rw [this]
  omega
/-- A reader of words at a byte: k words are still to come (or none). -/
def Rs (w : World) (g B O E : Nat) (D : Nat → Nat) (s o : Nat) (nw tb tB : Int) (k : Nat) : Prop := ∃ c cw, E - s ≤ c ∧ cw < 2 ^ 64 ∧ cw % 256 = D s ∧ (0 < k → cw = pk D (8 * s) 64) ∧ Rdr w g B O E s c o nw tb tB cw
theorem Rs.tch {S : Nat → Prop} {w w' : World} {g B O E : Nat} {D : Nat → Nat} {s o k : Nat} {nw tb tB : Int} (h : Rs w g B O E D s o nw tb tB k) (t : Tch S w w') (hn : ¬ S g) : Rs w' g B O E D s o nw tb tB k := by
  obtain ⟨c, cw, h1, h2, h3, h4, h5⟩ := h
  exact ⟨c, cw, h1, h2, h3, h4, t.blk h5 hn⟩
theorem rs_word (g B O E : Nat) (D : Nat → Nat) (s o k j : Nat) (nw tb tB : Int) (w : World) (hD : Dat w B O E D) (hg : B ≠ g) (h : Rs w g B O E D s o nw tb tB k) (hk : 0 < k) (hs : s + 16 ≤ E) (ho : o < 8) (hE : E < 2 ^ 40) :
    Calls Tryd.prog 44 #[.pointer (some ⟨g, 0, none⟩)] w fun e w' => e = .returned (.int .u64 (pk D (8 * s + o) 64 : Nat)) ∧ Tch (fun k => k = g) w w' ∧ Rs w' g B O E D (s + 8) o nw tb tB j := by
  obtain ⟨c, cw, h1, h2, h3, h4, h5⟩ := h
  obtain rfl := h4 hk
  refine (word44 g B O E D s c o nw tb tB w hD hg h5 h1 hs ho hE).mono ?_
  rintro e w' ⟨rfl, T, c', hc, hr⟩
  exact ⟨rfl, T, c', _, hc, pk_lt _ _ _, pk_low D _ (hD.byte _), fun _ => rfl, hr⟩
theorem rs_byte (g B O E : Nat) (D : Nat → Nat) (s o k tb : Nat) (nw tB : Int) (w : World) (hD : Dat w B O E D) (hg : B ≠ g) (h : Rs w g B O E D s o nw (tb : Int) tB k) (hs : s + 2 ≤ E) (ho : o < 8) (hE : E < 2 ^ 40) (ht : 8 < tb) (ht2 : tb < 2 ^ 40) (hB : 0 ≤ tB) (hB2 : tB < 2 ^ 40) :
    Calls Tryd.prog 46 #[.pointer (some ⟨g, 0, none⟩)] w fun e w' => e = .returned (.tuple #[.int .u8 (pk D (8 * s + o) 8 : Nat), .int .i64 8]) ∧ Tch (fun k => k = g) w w' ∧ Rs w' g B O E D (s + 1) o nw ((tb - 8 : Nat) : Int) (tB - 1) 0 := by
  obtain ⟨c, cw, h1, h2, h3, h4, h5⟩ := h
  refine (byte46 g B O E D s c o cw tb nw tB w hD hg h5 h3 h2 h1 hs ho hE ht ht2 hB hB2).mono ?_
  rintro e w' ⟨rfl, T, c', cw', hc, hcw, hl, hr⟩
  exact ⟨rfl, T, c', cw', hc, hl, hcw, fun h => by omega, hr⟩
theorem rs_last (g B O E : Nat) (D : Nat → Nat) (s o k v : Nat) (nw tB : Int) (w : World) (hD : Dat w B O E D) (hg : B ≠ g) (h : Rs w g B O E D s o nw (v : Int) tB k) (hs : s + (o + v + 7) / 8 ≤ E) (ho : o < 8) (hE : E < 2 ^ 40) (h0 : 0 < v) (h8 : v ≤ 8) :
    Calls Tryd.prog 46 #[.pointer (some ⟨g, 0, none⟩)] w fun e w' => e = .returned (.tuple #[.int .u8 (pk D (8 * s + o) v : Nat), .int .i64 v]) ∧ Tch (fun k => k = g) w w' := by
  obtain ⟨c, cw, h1, h2, h3, h4, h5⟩ := h
  exact last46 g B O E D s c o cw v nw tB w hD hg h5 hs ho hE h0 h8
theorem rs_new (B O m : Nat) (D : Nat → Nat) (c p n s o nw t : Nat) (w : World) (hD : Dat w B O m D) (hc : m ≤ c) (hn : 0 < n) (hs : s = p / 8) (ho : o = p % 8) (hnw : nw = n / 64 - 1) (ht : t = n - 64 * nw) (hp : p + n ≤ 8 * m) (hm : m < 2 ^ 40) :
    Calls Tryd.prog 42 #[.slice (some ⟨B, O, none⟩) m c, .int .i64 (p : Int), .int .i64 (n : Int)] w fun e w' => e = .returned (.pointer (some ⟨w.heap.size, 0, none⟩)) ∧ Below w.heap.size w w' ∧ Rs w' w.heap.size B O (s + (o + n + 7) / 8) D s o (nw : Int) (t : Int) (((t + 7) / 8 : Nat) : Int) nw := by
  have hE : s + (o + n + 7) / 8 - s ≤ c - s := by omega
  have hb := hD.byte s
  by_cases h1 : n < 64
  · obtain rfl : nw = 0 := by omega
    obtain rfl : t = n := by omega
    refine (new42a B O m D c p t s o ((o + t + 7) / 8) w hD hc hn h1 hs ho rfl hp hm).mono ?_
    rintro e w' ⟨rfl, hb', hr⟩
    exact ⟨rfl, hb', _, _, hE, by omega, Nat.mod_eq_of_lt hb, fun h => by omega, hr⟩
  · by_cases h2 : n < 128
    · obtain rfl : nw = 0 := by omega
      obtain rfl : t = n := by omega
      refine (new42b B O m D c p t s o ((o + t + 7) / 8) w hD hc hn (by omega) h2 hs ho rfl hp hm).mono ?_
      rintro e w' ⟨rfl, hb', hr⟩
      exact ⟨rfl, hb', _, _, hE, by omega, Nat.mod_eq_of_lt hb, fun h => by omega, hr⟩
    · refine (new42c B O m D c p n s o ((o + n + 7) / 8) nw t w hD hc hn (by omega) (by omega) (by omega) (by omega) hs ho rfl hp hm).mono ?_
      rintro e w' ⟨rfl, hb', hr⟩
      exact ⟨rfl, hb', _, _, hE, pk_lt _ _ _, pk_low D s hb, fun _ => rfl, hr⟩
theorem words43 (g : Nat) (x : Value) (w : World) (h : w.cell? ⟨g, 2, none⟩ = some x) : Calls Tryd.prog 43 #[.pointer (some ⟨g, 0, none⟩)] w fun e w' => e = .returned x ∧ w = w' := by
  go_enter Tryd.func43, Tryd.ntmps43
  go_wp2
  go_ret
  exact ⟨rfl, rfl⟩
theorem bytes45 (g : Nat) (x : Value) (w : World) (h : w.cell? ⟨g, 4, none⟩ = some x) : Calls Tryd.prog 45 #[.pointer (some ⟨g, 0, none⟩)] w fun e w' => e = .returned x ∧ w = w' := by
  go_enter Tryd.func45, Tryd.ntmps45
  go_wp2
  go_ret
  exact ⟨rfl, rfl⟩
theorem rs_words (g B O E : Nat) (D : Nat → Nat) (s o k : Nat) (nw tb tB : Int) (w : World) (h : Rs w g B O E D s o nw tb tB k) : Calls Tryd.prog 43 #[.pointer (some ⟨g, 0, none⟩)] w fun e w' => e = .returned (.int .i64 nw) ∧ w = w' := by
  obtain ⟨c, cw, h1, h2, h3, h4, h5⟩ := h
  exact words43 g _ w ((blk_cell h5 2).trans rfl)
theorem rs_bytes (g B O E : Nat) (D : Nat → Nat) (s o k : Nat) (nw tb tB : Int) (w : World) (h : Rs w g B O E D s o nw tb tB k) : Calls Tryd.prog 45 #[.pointer (some ⟨g, 0, none⟩)] w fun e w' => e = .returned (.int .i64 tB) ∧ w = w' := by
  obtain ⟨c, cw, h1, h2, h3, h4, h5⟩ := h
  exact bytes45 g _ w ((blk_cell h5 4).trans rfl)
/-! ### The same bits -/
def Same (D E : Nat → Nat) (p q n : Nat) : Prop := ∀ i, i < n → bitD D (p + i) = bitD E (q + i)
theorem same_pk {D E : Nat → Nat} {p q n : Nat} : pk D p n = pk E q n ↔ Same D E p q n := pk_eq D E p q n
theorem same_add {D E : Nat → Nat} {p q a b : Nat} : Same D E p q (a + b) ↔ Same D E p q a ∧ Same D E (p + a) (q + a) b := by
  constructor
  · intro h
    exact ⟨fun i hi => h i (by omega), fun i hi => by rw [Nat.add_assoc, Nat.add_assoc]; exact h (a + i) (by omega)⟩
  · rintro ⟨h1, h2⟩ i hi
    by_cases hia : i < a
    · exact h1 i hia
    · have := h2 (i - a) (by omega)
      rw [Nat.add_assoc, Nat.add_assoc, show a + (i - a) = i by omega] at this
      exact this
theorem Same.zero (D E : Nat → Nat) (p q : Nat) : Same D E p q 0 := fun i hi => by omega
/-- A row of bytes that may be empty. -/
def Row (w : World) (A : Option Addr) (m : Nat) (D : Nat → Nat) : Prop := (∀ j, D j < 256) ∧ (0 < m → ∃ B O, A = some ⟨B, O, none⟩ ∧ Dat w B O m D)
theorem add_none (B O n : Nat) : (⟨B, O, none⟩ : Addr).add n = ⟨B, O + n, none⟩ := by
  unfold Addr.add
  by_cases h0 : n = 0
  · subst h0
    rfl
  · rw [if_neg h0]
theorem Row.cut {w : World} {A : Option Addr} {m : Nat} {D : Nat → Nat} (h : Row w A m D) (c P nb : Nat) (hc : m ≤ c) (hP : P + nb ≤ m) : Row w (if c = P then A else Option.map (fun x => x.add P) A) nb (fun j => D (P + j)) := by
  refine ⟨fun j => h.1 _, fun hn => ?_⟩
  obtain ⟨B, O, rfl, hD⟩ := h.2 (by omega)
  rw [if_neg (by omega)]
  refine ⟨B, O + P, ?_, (hD.shift P (by omega)).less (by omega)⟩
  simp only [Option.map_some, add_none]
theorem Row.kd {w : World} {A : Option Addr} {m : Nat} {D : Nat → Nat} (h : Row w A m D) (hm : m < 2 ^ 40) : Kd.C (Kd.int .u8) w A ((List.range m).map fun j => (D j : Int)).length ((List.range m).map fun j => (D j : Int)) := by
  refine ⟨rfl, by simp; omega, fun hn => ?_⟩
  simp only [List.length_map, List.length_range] at hn
  obtain ⟨B, O, rfl, hD⟩ := h.2 hn
  refine ⟨_, rfl, fun j p hj => ?_⟩
  rw [List.getElem?_map] at hj
  have hjm : j < m := by
    rcases Nat.lt_or_ge j m with h' | h'
    · exact h'
    · rw [List.getElem?_eq_none (by simpa using h')] at hj
      cases hj
  rw [List.getElem?_range hjm] at hj
  simp at hj
  subst hj
  refine ⟨[.int .u8 (D j : Int)], rfl, rfl, fun i u hu => ?_⟩
  rcases i with _ | i
  · simp only [List.getElem?_cons_zero, Option.some.injEq] at hu
    subst hu
    show w.cell? ((⟨B, O, none⟩ : Addr).add (j * 1 + 0)) = _
    rw [add_none]
    exact hD.at_ j _ hjm (by omega)
  · simp at hu
theorem bytes_same (D E : Nat → Nat) (hD : ∀ j, D j < 256) (hE : ∀ j, E j < 256) (nb : Nat) : (strOfNums ((List.range nb).map fun j => (D j : Int))).toList = (strOfNums ((List.range nb).map fun j => (E j : Int))).toList ↔ ∀ j, j < nb → D j = E j := by
  rw [Go.Lib.strOfNums_toList, Go.Lib.strOfNums_toList]
  unfold Go.Lib.bytesOf
  rw [List.map_map, List.map_map]
  constructor
  · intro h j hj
    have e := congrArg (fun l => l[j]?) h
    simp only [List.getElem?_map, List.getElem?_range hj, Option.map_some, Function.comp, Option.some.injEq, Int.toNat_natCast] at e
    have e2 := congrArg UInt8.toNat e
    simp only [UInt8.toNat_ofNat'] at e2
    rw [Nat.mod_eq_of_lt (hD j), Nat.mod_eq_of_lt (hE j)] at e2
    exact e2
  · intro h
    apply List.map_congr_left
    intro j hj
    simp only [Function.comp, h j (List.mem_range.1 hj)]
theorem eq40 (A0 A1 : Option Addr) (c0 c1 nb : Nat) (D E : Nat → Nat) (w : World) (h0 : Row w A0 nb D) (h1 : Row w A1 nb E) (hn : nb < 2 ^ 40) (z : Bool) (hz : z = true ↔ ∀ j, j < nb → D j = E j) :
    Calls Tryd.prog 40 #[.slice A0 nb c0, .slice A1 nb c1] w fun e w' => e = .returned (.bool z) ∧ Below w.heap.size w w' := by
  have k0 := h0.kd hn
  have k1 := h1.kd hn
  have hcv3 := Kd.C_string (P := Tryd.prog) (A := A0) (c := c0) Tryd.underlying22 Tryd.underlying5 Tryd.underlying9 k0
  have hcv4 := Kd.C_string (P := Tryd.prog) (A := A1) (c := c1) Tryd.underlying22 Tryd.underlying5 Tryd.underlying9 k1
  simp only [List.length_map, List.length_range] at hcv3 hcv4
  obtain ⟨x, hx⟩ : ∃ x, x = strOfNums ((List.range nb).map fun j => (D j : Int)) := ⟨_, rfl⟩
  obtain ⟨y, hy⟩ : ∃ y, y = strOfNums ((List.range nb).map fun j => (E j : Int)) := ⟨_, rfl⟩
  rw [← hx] at hcv3
  rw [← hy] at hcv4
  have HX := Lib.hid (And.intro hx hy)
  clear k0 k1 hx hy
  go_enter Tryd.func40, Tryd.ntmps40
  go_wp2
  go_ret
  refine ⟨?_, Below.refl _ _⟩
  obtain ⟨hx, hy⟩ := HX.out
  refine congrArg (fun z => Ending.returned (Value.bool z)) ?_
  show (x.toList == y.toList) = z
  rw [Bool.eq_iff_iff, beq_iff_eq, hz, hx, hy]
  exact bytes_same D E h0.1 h1.1 nb
end Go.Proofs.YthgbfmcicpmepaaDoor.V
