/- An asked type stands for one type of arrow, and no two for the same. -/
import Derived.Test.YteebgnhhjlgnjaaGreatDoorWF
namespace Go.Proofs.YteebgnhhjlgnjaaGreatDoor.V
open Go.RowKit Go.Proofs.YteebgnhhjlgnjaaGreatDoorW.PrintWords Go.Proofs.YteebgnhhjlgnjaaGreatDoorW.PrintLast Go.Proofs.YteebgnhhjlgnjaaGreatDoorW.PrintMore
set_option maxHeartbeats 40000000
set_option maxRecDepth 100000
set_option linter.unusedVariables false
set_option linter.unusedSimpArgs false
theorem loop_len (b : ByteArray) : ∀ (d i : Nat) (r : List UInt8), i + d = b.size → (ByteArray.toList.loop b i r).length = d + r.length
 | 0, i, r, h => by
  unfold ByteArray.toList.loop
  rw [if_neg (by omega)]
  simp
 | d + 1, i, r, h => by
  unfold ByteArray.toList.loop
  rw [if_pos (by omega), loop_len b d (i + 1) _ (by omega)]
  simp only [List.length_cons]
  omega
theorem emp_of {z : ByteArray} (h : z.toList = []) : z = emp := by
 have h1 := loop_len z z.size 0 [] (by omega)
 have h2 : (ByteArray.toList.loop z 0 []).length = 0 := by
  have : ByteArray.toList.loop z 0 [] = z.toList := rfl
  rw [this, h]; rfl
 have h3 : z.size = 0 := by rw [h2] at h1; simp at h1; omega
 obtain ⟨a⟩ := z
 have h4 : a.size = 0 := h3
 have h5 : a = #[] := Array.eq_empty_of_size_eq_zero h4
 rw [h5]; rfl
theorem unused_of {k w : Int} {s : Bool} {u p c : Int} {z : ByteArray} {fl : Bool} {ids : List Int} {fs : List S30} (h : unusedB ⟨k, w, s, u, p, c, z, fl, ids, fs⟩ = true) :
 (w = 0 ∨ [2, 3, 7, 15, 16].contains k = true) ∧ (s = false ∨ k = 2) ∧ (u = 0 ∨ [8, 9, 10, 11, 14, 18].contains k = true) ∧ ((p = 0 ∧ c = 0) ∨ k = 7) ∧ (z = emp ∨ k = 10) ∧ (fl = false ∨ [17, 27].contains k = true) ∧ (ids = [] ∨ k = 14) := by
 unfold unusedB at h
 simp only [Bool.and_eq_true, Bool.or_eq_true, beq_iff_eq, Bool.not_eq_true'] at h
 obtain ⟨⟨⟨⟨⟨⟨h1, h2⟩, h3⟩, h4⟩, h5⟩, h6⟩, h7⟩ := h
 exact ⟨h1, h2, h3, h4, h5.imp emp_of id, h6, h7.imp List.eq_nil_of_length_eq_zero id⟩
theorem All2.map {α β : Type} {R R' : α → β → Prop} (h : ∀ a b, R a b → R' a b) {l : List α} {m : List β} (hl : All2 R l m) : All2 R' l m := by
 induction hl with
 | nil => exact .nil
 | cons h1 _ ih => exact .cons (h _ _ h1) ih
theorem FD.mono {sub sub' : S28 → DT → Prop} (h : ∀ T d, sub T d → sub' T d) (f : S30) (d : DF) (hf : FD sub f d) : FD sub' f d := by
 obtain ⟨n, T, t, e1, e2, h1, h2⟩ := hf
 exact ⟨n, T, t, e1, e2, h _ _ h1, h2⟩
theorem TDs.mono {sub sub' : S28 → DT → Prop} (h : ∀ T d, sub T d → sub' T d) {T : S28} {d : DT} (ht : TDs sub T d) : TDs sub' T d := by
 cases ht with
 | zero k w s u t h1 => exact .zero k w s u t h1
 | time u t h1 => exact .time u t h1
 | stamp u z h0 h1 h2 => exact .stamp u z h0 h1 h2
 | dur u h0 h1 => exact .dur u h0 h1
 | dec w t p c h1 h0 h2 h3 h4 => exact .dec w t p c h1 h0 h2 h3 h4
 | fsb w h0 h1 => exact .fsb w h0 h1
 | list k t T d h1 hs => exact .list k t T d h1 (h _ _ hs)
 | flist w T d h0 h1 hs => exact .flist w T d h0 h1 (h _ _ hs)
 | struct fs ds h1 hl => exact .struct fs ds (h1.map (FD.mono h)) hl
 | map K V dk dv fl he hk hv => exact .map K V dk dv fl (h _ _ he) (h _ _ hk) (h _ _ hv)
 | entries K V dk dv hk hv => exact .entries K V dk dv (h _ _ hk) (h _ _ hv)
 | union u t fs ds ids h1 hf h0 hl hi hr hd => exact .union u t fs ds ids h1 (hf.map (FD.mono h)) h0 hl hi hr hd
 | ree R V dr dv hr hv => exact .ree R V dr dv (h _ _ hr) (h _ _ hv)
 | dict I V di dv fl hi hv => exact .dict I V di dv fl (h _ _ hi) (h _ _ hv)
theorem TD.succ : ∀ (n : Nat) (T : S28) (d : DT), TD n T d → TD (n + 1) T d
 | 0, _, _, h => h.elim
 | n + 1, T, d, h => TDs.mono (TD.succ n) h
theorem fds_of {n : Nat} (ih : ∀ T, RightP n T → UsualP T → ∃ d, TD n T d) : ∀ (fs : List S30), (∀ f ∈ fs, RightP n f.f2 ∧ UsualP f.f2 ∧ f.f3 = [] ∧ f.f1 = true ∧ f.f0.size ≤ 50) → ∃ ds, All2 (FD (TD n)) fs ds
 | [], _ => ⟨[], .nil⟩
 | ⟨a, b, c, e⟩ :: r, h => by
  obtain ⟨ds, hd⟩ := fds_of ih r (fun g hg => h g (List.mem_cons_of_mem _ hg))
  obtain ⟨h1, h2, h3, h4, h5⟩ := h ⟨a, b, c, e⟩ (List.mem_cons_self ..)
  obtain ⟨d, hd1⟩ := ih c h1 h2
  dsimp only at h3 h4 h5
  subst h3 h4
  exact ⟨.mk a d true :: ds, .cons ⟨a, c, d, rfl, rfl, hd1, h5⟩ hd⟩
theorem one_field {fs : List S30} (h1 : 1 ≤ fs.length) (h2 : fs.length ≤ 1) : ∃ a b c e, fs = [⟨a, b, c, e⟩] := by
 match fs with
 | [⟨a, b, c, e⟩] => exact ⟨a, b, c, e, rfl⟩
 | [] => simp at h1
 | _ :: _ :: _ => simp at h2
theorem two_field {fs : List S30} (h1 : 2 ≤ fs.length) (h2 : fs.length ≤ 2) : ∃ a b c e a' b' c' e', fs = [⟨a, b, c, e⟩, ⟨a', b', c', e'⟩] := by
 match fs with
 | [⟨a, b, c, e⟩, ⟨a', b', c', e'⟩] => exact ⟨a, b, c, e, a', b', c', e', rfl⟩
 | [] => simp at h1
 | [_] => simp at h1
 | _ :: _ :: _ :: _ => simp at h2
theorem usual_inv {T : S28} (h : UsualP T) : (∀ (i : Nat) (hi : i < T.f9.length), FieldU T.f0 i T.f9[i]) ∧ (T.f0 ≠ 17 → ∀ (i : Nat) (hi : i < T.f9.length), UsualP T.f9[i].f2) ∧ (T.f0 = 17 → ∀ (i : Nat) (hi : i < T.f9.length), EntB T.f9[i].f2) ∧ (T.f0 = 17 → ∀ (i : Nat) (hi : i < T.f9.length) (j : Nat) (hj : j < T.f9[i].f2.f9.length), UsualP (T.f9[i].f2.f9[j]).f2) := by
 cases h with
 | mk _ h1 h2 h3 h4 => exact ⟨h1, h2, h3, h4⟩
theorem td_of : ∀ (n : Nat) (T : S28), RightP n T → UsualP T → ∃ d, TD n T d
 | 0, _, h, _ => h.elim
 | n + 1, ⟨k, w, s, u, p, c, z, fl, ids, fs⟩, hR, hU => by
  obtain ⟨⟨hu, h1, h2, hlo, hhi, hz⟩, hK, hs⟩ := hR
  obtain ⟨f1, f2, f3, f4⟩ := usual_inv hU
  have ih := td_of n
  obtain ⟨a1, a2, a3, a4, a5, a6, a7⟩ := unused_of hu
  clear hu hU
  dsimp only at h1 h2 hz hlo hhi hs f1 f2 f3 f4
  have hk : k = 1 ∨ k = 2 ∨ k = 3 ∨ k = 4 ∨ k = 5 ∨ k = 6 ∨ k = 7 ∨ k = 8 ∨ k = 9 ∨ k = 10 ∨ k = 11 ∨ k = 12 ∨ k = 13 ∨ k = 14 ∨ k = 15 ∨ k = 16 ∨ k = 17 ∨ k = 18 ∨ k = 19 ∨ k = 20 ∨ k = 21 ∨ k = 22 ∨ k = 23 ∨ k = 24 ∨ k = 25 ∨ k = 26 ∨ k = 27 := by omega
  rcases hk with rfl | rfl | rfl | rfl | rfl | rfl | rfl | rfl | rfl | rfl | rfl | rfl | rfl | rfl | rfl | rfl | rfl | rfl | rfl | rfl | rfl | rfl | rfl | rfl | rfl | rfl | rfl
  ·obtain rfl : w = 0 := a1.resolve_right (by decide)
   obtain rfl : s = false := a2.resolve_right (by decide)
   obtain rfl : u = 0 := a3.resolve_right (by decide)
   obtain ⟨rfl, rfl⟩ : p = 0 ∧ c = 0 := a4.resolve_right (by decide)
   obtain rfl : z = emp := a5.resolve_right (by decide)
   obtain rfl : fl = false := a6.resolve_right (by decide)
   obtain rfl : ids = [] := a7.resolve_right (by decide)
   obtain rfl : fs = [] := List.eq_nil_of_length_eq_zero (Nat.le_zero.mp hhi)
   exact ⟨_, .zero 1 0 false 0 101 (by decide)⟩
  ·obtain rfl : u = 0 := a3.resolve_right (by decide)
   obtain ⟨rfl, rfl⟩ : p = 0 ∧ c = 0 := a4.resolve_right (by decide)
   obtain rfl : z = emp := a5.resolve_right (by decide)
   obtain rfl : fl = false := a6.resolve_right (by decide)
   obtain rfl : ids = [] := a7.resolve_right (by decide)
   obtain rfl : fs = [] := List.eq_nil_of_length_eq_zero (Nat.le_zero.mp hhi)
   have hw := hK.int rfl
   dsimp only at hw
   simp only [List.mem_cons, List.not_mem_nil, or_false] at hw
   rcases hw with rfl | rfl | rfl | rfl <;> cases s
   ·exact ⟨_, .zero 2 8 false 0 206 (by decide)⟩
   ·exact ⟨_, .zero 2 8 true 0 198 (by decide)⟩
   ·exact ⟨_, .zero 2 16 false 0 208 (by decide)⟩
   ·exact ⟨_, .zero 2 16 true 0 200 (by decide)⟩
   ·exact ⟨_, .zero 2 32 false 0 210 (by decide)⟩
   ·exact ⟨_, .zero 2 32 true 0 202 (by decide)⟩
   ·exact ⟨_, .zero 2 64 false 0 212 (by decide)⟩
   ·exact ⟨_, .zero 2 64 true 0 204 (by decide)⟩
  ·obtain rfl : s = false := a2.resolve_right (by decide)
   obtain rfl : u = 0 := a3.resolve_right (by decide)
   obtain ⟨rfl, rfl⟩ : p = 0 ∧ c = 0 := a4.resolve_right (by decide)
   obtain rfl : z = emp := a5.resolve_right (by decide)
   obtain rfl : fl = false := a6.resolve_right (by decide)
   obtain rfl : ids = [] := a7.resolve_right (by decide)
   obtain rfl : fs = [] := List.eq_nil_of_length_eq_zero (Nat.le_zero.mp hhi)
   have hw := hK.float rfl
   dsimp only at hw
   simp only [List.mem_cons, List.not_mem_nil, or_false] at hw
   rcases hw with rfl | rfl | rfl
   ·exact ⟨_, .zero 3 16 false 0 106 (by decide)⟩
   ·exact ⟨_, .zero 3 32 false 0 108 (by decide)⟩
   ·exact ⟨_, .zero 3 64 false 0 110 (by decide)⟩
  ·obtain rfl : w = 0 := a1.resolve_right (by decide)
   obtain rfl : s = false := a2.resolve_right (by decide)
   obtain rfl : u = 0 := a3.resolve_right (by decide)
   obtain ⟨rfl, rfl⟩ : p = 0 ∧ c = 0 := a4.resolve_right (by decide)
   obtain rfl : z = emp := a5.resolve_right (by decide)
   obtain rfl : fl = false := a6.resolve_right (by decide)
   obtain rfl : ids = [] := a7.resolve_right (by decide)
   obtain rfl : fs = [] := List.eq_nil_of_length_eq_zero (Nat.le_zero.mp hhi)
   exact ⟨_, .zero 4 0 false 0 133 (by decide)⟩
  ·obtain rfl : w = 0 := a1.resolve_right (by decide)
   obtain rfl : s = false := a2.resolve_right (by decide)
   obtain rfl : u = 0 := a3.resolve_right (by decide)
   obtain ⟨rfl, rfl⟩ : p = 0 ∧ c = 0 := a4.resolve_right (by decide)
   obtain rfl : z = emp := a5.resolve_right (by decide)
   obtain rfl : fl = false := a6.resolve_right (by decide)
   obtain rfl : ids = [] := a7.resolve_right (by decide)
   obtain rfl : fs = [] := List.eq_nil_of_length_eq_zero (Nat.le_zero.mp hhi)
   exact ⟨_, .zero 5 0 false 0 135 (by decide)⟩
  ·obtain rfl : w = 0 := a1.resolve_right (by decide)
   obtain rfl : s = false := a2.resolve_right (by decide)
   obtain rfl : u = 0 := a3.resolve_right (by decide)
   obtain ⟨rfl, rfl⟩ : p = 0 ∧ c = 0 := a4.resolve_right (by decide)
   obtain rfl : z = emp := a5.resolve_right (by decide)
   obtain rfl : fl = false := a6.resolve_right (by decide)
   obtain rfl : ids = [] := a7.resolve_right (by decide)
   obtain rfl : fs = [] := List.eq_nil_of_length_eq_zero (Nat.le_zero.mp hhi)
   exact ⟨_, .zero 6 0 false 0 104 (by decide)⟩
  ·obtain rfl : s = false := a2.resolve_right (by decide)
   obtain rfl : u = 0 := a3.resolve_right (by decide)
   obtain rfl : z = emp := a5.resolve_right (by decide)
   obtain rfl : fl = false := a6.resolve_right (by decide)
   obtain rfl : ids = [] := a7.resolve_right (by decide)
   obtain rfl : fs = [] := List.eq_nil_of_length_eq_zero (Nat.le_zero.mp hhi)
   obtain ⟨hw, h3, h4, h5, h6⟩ := hK.dec rfl
   dsimp only at hw h3 h4 h5 h6
   simp only [List.mem_cons, List.not_mem_nil, or_false] at hw
   rcases hw with rfl | rfl | rfl | rfl
   ·exact ⟨_, .dec 32 214 p c (by decide) h3 h4 h5 h6⟩
   ·exact ⟨_, .dec 64 217 p c (by decide) h3 h4 h5 h6⟩
   ·exact ⟨_, .dec 128 219 p c (by decide) h3 h4 h5 h6⟩
   ·exact ⟨_, .dec 256 221 p c (by decide) h3 h4 h5 h6⟩
  ·obtain rfl : w = 0 := a1.resolve_right (by decide)
   obtain rfl : s = false := a2.resolve_right (by decide)
   obtain ⟨rfl, rfl⟩ : p = 0 ∧ c = 0 := a4.resolve_right (by decide)
   obtain rfl : z = emp := a5.resolve_right (by decide)
   obtain rfl : fl = false := a6.resolve_right (by decide)
   obtain rfl : ids = [] := a7.resolve_right (by decide)
   obtain rfl : fs = [] := List.eq_nil_of_length_eq_zero (Nat.le_zero.mp hhi)
   have hw := hK.date rfl
   dsimp only at hw
   simp only [List.mem_cons, List.not_mem_nil, or_false] at hw
   rcases hw with rfl | rfl
   ·exact ⟨_, .zero 8 0 false 0 112 (by decide)⟩
   ·exact ⟨_, .zero 8 0 false 1 114 (by decide)⟩
  ·obtain rfl : w = 0 := a1.resolve_right (by decide)
   obtain rfl : s = false := a2.resolve_right (by decide)
   obtain ⟨rfl, rfl⟩ : p = 0 ∧ c = 0 := a4.resolve_right (by decide)
   obtain rfl : z = emp := a5.resolve_right (by decide)
   obtain rfl : fl = false := a6.resolve_right (by decide)
   obtain rfl : ids = [] := a7.resolve_right (by decide)
   obtain rfl : fs = [] := List.eq_nil_of_length_eq_zero (Nat.le_zero.mp hhi)
   have hw := hK.time (.inl rfl)
   dsimp only at hw
   have hw2 : u = 0 ∨ u = 1 ∨ u = 2 ∨ u = 3 := by omega
   rcases hw2 with rfl | rfl | rfl | rfl
   ·exact ⟨_, .time 0 116 (by decide)⟩
   ·exact ⟨_, .time 1 116 (by decide)⟩
   ·exact ⟨_, .time 2 120 (by decide)⟩
   ·exact ⟨_, .time 3 120 (by decide)⟩
  ·obtain rfl : w = 0 := a1.resolve_right (by decide)
   obtain rfl : s = false := a2.resolve_right (by decide)
   obtain ⟨rfl, rfl⟩ : p = 0 ∧ c = 0 := a4.resolve_right (by decide)
   obtain rfl : fl = false := a6.resolve_right (by decide)
   obtain rfl : ids = [] := a7.resolve_right (by decide)
   obtain rfl : fs = [] := List.eq_nil_of_length_eq_zero (Nat.le_zero.mp hhi)
   have hw := hK.time (.inr (.inl rfl))
   exact ⟨_, .stamp u z hw.1 hw.2 hz⟩
  ·obtain rfl : w = 0 := a1.resolve_right (by decide)
   obtain rfl : s = false := a2.resolve_right (by decide)
   obtain ⟨rfl, rfl⟩ : p = 0 ∧ c = 0 := a4.resolve_right (by decide)
   obtain rfl : z = emp := a5.resolve_right (by decide)
   obtain rfl : fl = false := a6.resolve_right (by decide)
   obtain rfl : ids = [] := a7.resolve_right (by decide)
   obtain rfl : fs = [] := List.eq_nil_of_length_eq_zero (Nat.le_zero.mp hhi)
   have hw := hK.ival rfl
   dsimp only at hw
   have hw2 : u = 0 ∨ u = 1 ∨ u = 2 := by omega
   rcases hw2 with rfl | rfl | rfl
   ·exact ⟨_, .zero 11 0 false 0 127 (by decide)⟩
   ·exact ⟨_, .zero 11 0 false 1 129 (by decide)⟩
   ·exact ⟨_, .zero 11 0 false 2 131 (by decide)⟩
  ·obtain rfl : w = 0 := a1.resolve_right (by decide)
   obtain rfl : s = false := a2.resolve_right (by decide)
   obtain rfl : u = 0 := a3.resolve_right (by decide)
   obtain ⟨rfl, rfl⟩ : p = 0 ∧ c = 0 := a4.resolve_right (by decide)
   obtain rfl : z = emp := a5.resolve_right (by decide)
   obtain rfl : fl = false := a6.resolve_right (by decide)
   obtain rfl : ids = [] := a7.resolve_right (by decide)
   obtain ⟨a, b, q, e, rfl⟩ := one_field (fs := fs) hlo hhi
   obtain ⟨d, hd⟩ := ih q (hs ⟨a, b, q, e⟩ (by simp)) (f2 (by decide) 0 (by simp))
   obtain ⟨m1, m2, m3, m4⟩ := f1 0 (by simp)
   dsimp only [List.getElem_cons_zero] at m1 m2 m3 m4
   obtain rfl := m1
   obtain rfl := Option.some.inj (m3 (by decide))
   obtain rfl : b = true := m4
   exact ⟨_, .list 12 154 q d (by decide) hd⟩
  ·obtain rfl : w = 0 := a1.resolve_right (by decide)
   obtain rfl : s = false := a2.resolve_right (by decide)
   obtain rfl : u = 0 := a3.resolve_right (by decide)
   obtain ⟨rfl, rfl⟩ : p = 0 ∧ c = 0 := a4.resolve_right (by decide)
   obtain rfl : z = emp := a5.resolve_right (by decide)
   obtain rfl : fl = false := a6.resolve_right (by decide)
   obtain rfl : ids = [] := a7.resolve_right (by decide)
   obtain ⟨ds, hds⟩ := fds_of ih fs (fun f hf => by
    obtain ⟨i, hi, rfl⟩ := List.getElem_of_mem hf
    obtain ⟨m1, m2, m3, m4⟩ := f1 i hi
    exact ⟨hs _ hf, f2 (by decide) i hi, m1, m4, m2⟩)
   exact ⟨_, .struct fs ds hds hhi⟩
  ·obtain rfl : w = 0 := a1.resolve_right (by decide)
   obtain rfl : s = false := a2.resolve_right (by decide)
   obtain ⟨rfl, rfl⟩ : p = 0 ∧ c = 0 := a4.resolve_right (by decide)
   obtain rfl : z = emp := a5.resolve_right (by decide)
   obtain rfl : fl = false := a6.resolve_right (by decide)
   obtain ⟨ds, hds⟩ := fds_of ih fs (fun f hf => by
    obtain ⟨i, hi, rfl⟩ := List.getElem_of_mem hf
    obtain ⟨m1, m2, m3, m4⟩ := f1 i hi
    exact ⟨hs _ hf, f2 (by decide) i hi, m1, m4, m2⟩)
   obtain ⟨hu1, ⟨hi1, hi2, hi3⟩, hn⟩ := hK.union rfl
   dsimp only at hu1 hi1 hi2 hn
   simp only [List.mem_cons, List.not_mem_nil, or_false] at hu1
   rcases hu1 with rfl | rfl
   ·exact ⟨_, .union 0 224 fs ds ids (by decide) hds hn hhi hi1 hi2 hi3⟩
   ·exact ⟨_, .union 1 226 fs ds ids (by decide) hds hn hhi hi1 hi2 hi3⟩
  ·obtain rfl : s = false := a2.resolve_right (by decide)
   obtain rfl : u = 0 := a3.resolve_right (by decide)
   obtain ⟨rfl, rfl⟩ : p = 0 ∧ c = 0 := a4.resolve_right (by decide)
   obtain rfl : z = emp := a5.resolve_right (by decide)
   obtain rfl : fl = false := a6.resolve_right (by decide)
   obtain rfl : ids = [] := a7.resolve_right (by decide)
   obtain rfl : fs = [] := List.eq_nil_of_length_eq_zero (Nat.le_zero.mp hhi)
   have hw := hK.wide (.inl rfl)
   exact ⟨_, .fsb w hw.1 hw.2⟩
  ·obtain rfl : s = false := a2.resolve_right (by decide)
   obtain rfl : u = 0 := a3.resolve_right (by decide)
   obtain ⟨rfl, rfl⟩ : p = 0 ∧ c = 0 := a4.resolve_right (by decide)
   obtain rfl : z = emp := a5.resolve_right (by decide)
   obtain rfl : fl = false := a6.resolve_right (by decide)
   obtain rfl : ids = [] := a7.resolve_right (by decide)
   obtain ⟨a, b, q, e, rfl⟩ := one_field (fs := fs) hlo hhi
   obtain ⟨d, hd⟩ := ih q (hs ⟨a, b, q, e⟩ (by simp)) (f2 (by decide) 0 (by simp))
   obtain ⟨m1, m2, m3, m4⟩ := f1 0 (by simp)
   dsimp only [List.getElem_cons_zero] at m1 m2 m3 m4
   obtain rfl := m1
   obtain rfl := Option.some.inj (m3 (by decide))
   obtain rfl : b = true := m4
   have hw := hK.wide (.inr rfl)
   have hw2 := hK.flist rfl
   exact ⟨_, .flist w q d hw2 hw.2 hd⟩
  ·obtain rfl : w = 0 := a1.resolve_right (by decide)
   obtain rfl : s = false := a2.resolve_right (by decide)
   obtain rfl : u = 0 := a3.resolve_right (by decide)
   obtain ⟨rfl, rfl⟩ : p = 0 ∧ c = 0 := a4.resolve_right (by decide)
   obtain rfl : z = emp := a5.resolve_right (by decide)
   obtain rfl : ids = [] := a7.resolve_right (by decide)
   obtain ⟨a, b, q, e, rfl⟩ := one_field (fs := fs) hlo hhi
   have hq := hs _ (List.mem_cons_self ..)
   have hm := hK.map rfl
   have he := f3 rfl 0 (by simp)
   have hj := f4 rfl 0 (by simp)
   obtain ⟨m1, m2, m3, m4⟩ := f1 0 (by simp)
   dsimp only [List.getElem_cons_zero] at m1 m2 m3 m4
   obtain rfl := m1
   obtain rfl := Option.some.inj (m3 (by decide))
   obtain rfl : b = false := m4
   dsimp only [List.getElem_cons_zero] at hq he hj
   change q.f0 = 13 ∧ q.f9.length = 2 at hm
   cases n with
   | zero => exact hq.elim
   | succ n =>
   obtain ⟨k', w', s', u', p', c', z', fl', ids', fs'⟩ := q
   obtain ⟨hm1, hm2⟩ := hm
   dsimp only at hm1 hm2
   subst hm1
   obtain ⟨x1, x2, x3, x4, y1, y2, y3, y4, rfl⟩ := two_field (fs := fs') (by omega) (by omega)
   obtain ⟨⟨hu', h1', h2', hlo', hhi', hz'⟩, hK', hs'⟩ := hq
   obtain ⟨a1, a2, a3, a4, a5, a6, a7⟩ := unused_of hu'
   obtain rfl : w' = 0 := a1.resolve_right (by decide)
   obtain rfl : s' = false := a2.resolve_right (by decide)
   obtain rfl : u' = 0 := a3.resolve_right (by decide)
   obtain ⟨rfl, rfl⟩ : p' = 0 ∧ c' = 0 := a4.resolve_right (by decide)
   obtain rfl : z' = emp := a5.resolve_right (by decide)
   obtain rfl : fl' = false := a6.resolve_right (by decide)
   obtain rfl : ids' = [] := a7.resolve_right (by decide)
   obtain ⟨e1, e2, e3, e4, e5, e6⟩ := he
   obtain rfl : x1 = nmKey := e1
   obtain rfl : y1 = nmValue := e2
   obtain rfl : x2 = false := e3
   obtain rfl : y2 = true := e4
   obtain rfl : x4 = [] := e5
   obtain rfl : y4 = [] := e6
   obtain ⟨dk, hdk⟩ := td_of n x3 (hs' ⟨nmKey, false, x3, []⟩ (by simp)) (hj 0 (by simp))
   obtain ⟨dv, hdv⟩ := td_of n y3 (hs' ⟨nmValue, true, y3, []⟩ (by simp)) (hj 1 (by simp))
   exact ⟨_, .map x3 y3 dk dv fl (.entries x3 y3 dk dv hdk hdv) (TD.succ _ _ _ hdk) (TD.succ _ _ _ hdv)⟩
  ·obtain rfl : w = 0 := a1.resolve_right (by decide)
   obtain rfl : s = false := a2.resolve_right (by decide)
   obtain ⟨rfl, rfl⟩ : p = 0 ∧ c = 0 := a4.resolve_right (by decide)
   obtain rfl : z = emp := a5.resolve_right (by decide)
   obtain rfl : fl = false := a6.resolve_right (by decide)
   obtain rfl : ids = [] := a7.resolve_right (by decide)
   obtain rfl : fs = [] := List.eq_nil_of_length_eq_zero (Nat.le_zero.mp hhi)
   have hw := hK.time (.inr (.inr rfl))
   exact ⟨_, .dur u hw.1 hw.2⟩
  ·obtain rfl : w = 0 := a1.resolve_right (by decide)
   obtain rfl : s = false := a2.resolve_right (by decide)
   obtain rfl : u = 0 := a3.resolve_right (by decide)
   obtain ⟨rfl, rfl⟩ : p = 0 ∧ c = 0 := a4.resolve_right (by decide)
   obtain rfl : z = emp := a5.resolve_right (by decide)
   obtain rfl : fl = false := a6.resolve_right (by decide)
   obtain rfl : ids = [] := a7.resolve_right (by decide)
   obtain rfl : fs = [] := List.eq_nil_of_length_eq_zero (Nat.le_zero.mp hhi)
   exact ⟨_, .zero 19 0 false 0 137 (by decide)⟩
  ·obtain rfl : w = 0 := a1.resolve_right (by decide)
   obtain rfl : s = false := a2.resolve_right (by decide)
   obtain rfl : u = 0 := a3.resolve_right (by decide)
   obtain ⟨rfl, rfl⟩ : p = 0 ∧ c = 0 := a4.resolve_right (by decide)
   obtain rfl : z = emp := a5.resolve_right (by decide)
   obtain rfl : fl = false := a6.resolve_right (by decide)
   obtain rfl : ids = [] := a7.resolve_right (by decide)
   obtain rfl : fs = [] := List.eq_nil_of_length_eq_zero (Nat.le_zero.mp hhi)
   exact ⟨_, .zero 20 0 false 0 139 (by decide)⟩
  ·obtain rfl : w = 0 := a1.resolve_right (by decide)
   obtain rfl : s = false := a2.resolve_right (by decide)
   obtain rfl : u = 0 := a3.resolve_right (by decide)
   obtain ⟨rfl, rfl⟩ : p = 0 ∧ c = 0 := a4.resolve_right (by decide)
   obtain rfl : z = emp := a5.resolve_right (by decide)
   obtain rfl : fl = false := a6.resolve_right (by decide)
   obtain rfl : ids = [] := a7.resolve_right (by decide)
   obtain ⟨a, b, q, e, rfl⟩ := one_field (fs := fs) hlo hhi
   obtain ⟨d, hd⟩ := ih q (hs ⟨a, b, q, e⟩ (by simp)) (f2 (by decide) 0 (by simp))
   obtain ⟨m1, m2, m3, m4⟩ := f1 0 (by simp)
   dsimp only [List.getElem_cons_zero] at m1 m2 m3 m4
   obtain rfl := m1
   obtain rfl := Option.some.inj (m3 (by decide))
   obtain rfl : b = true := m4
   exact ⟨_, .list 21 233 q d (by decide) hd⟩
  ·obtain rfl : w = 0 := a1.resolve_right (by decide)
   obtain rfl : s = false := a2.resolve_right (by decide)
   obtain rfl : u = 0 := a3.resolve_right (by decide)
   obtain ⟨rfl, rfl⟩ : p = 0 ∧ c = 0 := a4.resolve_right (by decide)
   obtain rfl : z = emp := a5.resolve_right (by decide)
   obtain rfl : fl = false := a6.resolve_right (by decide)
   obtain rfl : ids = [] := a7.resolve_right (by decide)
   obtain ⟨a, b, q, e, a', b', q', e', rfl⟩ := two_field (fs := fs) hlo hhi
   obtain ⟨d, hd⟩ := ih q (hs ⟨a, b, q, e⟩ (by simp)) (f2 (by decide) 0 (by simp))
   obtain ⟨d', hd'⟩ := ih q' (hs ⟨a', b', q', e'⟩ (by simp)) (f2 (by decide) 1 (by simp))
   obtain ⟨n1, n2, n3, n4⟩ := f1 1 (by simp)
   dsimp only [List.getElem_cons_zero, List.getElem_cons_succ] at n1 n2 n3 n4
   obtain rfl := n1
   obtain rfl := Option.some.inj (n3 (by decide))
   obtain ⟨m1, m2, m3, m4⟩ := f1 0 (by simp)
   dsimp only [List.getElem_cons_zero] at m1 m2 m3 m4
   obtain rfl := m1
   obtain rfl := Option.some.inj (m3 (by decide))
   obtain rfl : b = false := m4
   obtain rfl : b' = true := n4
   exact ⟨_, .ree q q' d d' hd hd'⟩
  ·obtain rfl : w = 0 := a1.resolve_right (by decide)
   obtain rfl : s = false := a2.resolve_right (by decide)
   obtain rfl : u = 0 := a3.resolve_right (by decide)
   obtain ⟨rfl, rfl⟩ : p = 0 ∧ c = 0 := a4.resolve_right (by decide)
   obtain rfl : z = emp := a5.resolve_right (by decide)
   obtain rfl : fl = false := a6.resolve_right (by decide)
   obtain rfl : ids = [] := a7.resolve_right (by decide)
   obtain rfl : fs = [] := List.eq_nil_of_length_eq_zero (Nat.le_zero.mp hhi)
   exact ⟨_, .zero 23 0 false 0 141 (by decide)⟩
  ·obtain rfl : w = 0 := a1.resolve_right (by decide)
   obtain rfl : s = false := a2.resolve_right (by decide)
   obtain rfl : u = 0 := a3.resolve_right (by decide)
   obtain ⟨rfl, rfl⟩ : p = 0 ∧ c = 0 := a4.resolve_right (by decide)
   obtain rfl : z = emp := a5.resolve_right (by decide)
   obtain rfl : fl = false := a6.resolve_right (by decide)
   obtain rfl : ids = [] := a7.resolve_right (by decide)
   obtain rfl : fs = [] := List.eq_nil_of_length_eq_zero (Nat.le_zero.mp hhi)
   exact ⟨_, .zero 24 0 false 0 143 (by decide)⟩
  ·obtain rfl : w = 0 := a1.resolve_right (by decide)
   obtain rfl : s = false := a2.resolve_right (by decide)
   obtain rfl : u = 0 := a3.resolve_right (by decide)
   obtain ⟨rfl, rfl⟩ : p = 0 ∧ c = 0 := a4.resolve_right (by decide)
   obtain rfl : z = emp := a5.resolve_right (by decide)
   obtain rfl : fl = false := a6.resolve_right (by decide)
   obtain rfl : ids = [] := a7.resolve_right (by decide)
   obtain ⟨a, b, q, e, rfl⟩ := one_field (fs := fs) hlo hhi
   obtain ⟨d, hd⟩ := ih q (hs ⟨a, b, q, e⟩ (by simp)) (f2 (by decide) 0 (by simp))
   obtain ⟨m1, m2, m3, m4⟩ := f1 0 (by simp)
   dsimp only [List.getElem_cons_zero] at m1 m2 m3 m4
   obtain rfl := m1
   obtain rfl := Option.some.inj (m3 (by decide))
   obtain rfl : b = true := m4
   exact ⟨_, .list 25 180 q d (by decide) hd⟩
  ·obtain rfl : w = 0 := a1.resolve_right (by decide)
   obtain rfl : s = false := a2.resolve_right (by decide)
   obtain rfl : u = 0 := a3.resolve_right (by decide)
   obtain ⟨rfl, rfl⟩ : p = 0 ∧ c = 0 := a4.resolve_right (by decide)
   obtain rfl : z = emp := a5.resolve_right (by decide)
   obtain rfl : fl = false := a6.resolve_right (by decide)
   obtain rfl : ids = [] := a7.resolve_right (by decide)
   obtain ⟨a, b, q, e, rfl⟩ := one_field (fs := fs) hlo hhi
   obtain ⟨d, hd⟩ := ih q (hs ⟨a, b, q, e⟩ (by simp)) (f2 (by decide) 0 (by simp))
   obtain ⟨m1, m2, m3, m4⟩ := f1 0 (by simp)
   dsimp only [List.getElem_cons_zero] at m1 m2 m3 m4
   obtain rfl := m1
   obtain rfl := Option.some.inj (m3 (by decide))
   obtain rfl : b = true := m4
   exact ⟨_, .list 26 236 q d (by decide) hd⟩
  ·obtain rfl : w = 0 := a1.resolve_right (by decide)
   obtain rfl : s = false := a2.resolve_right (by decide)
   obtain rfl : u = 0 := a3.resolve_right (by decide)
   obtain ⟨rfl, rfl⟩ : p = 0 ∧ c = 0 := a4.resolve_right (by decide)
   obtain rfl : z = emp := a5.resolve_right (by decide)
   obtain rfl : ids = [] := a7.resolve_right (by decide)
   obtain ⟨a, b, q, e, a', b', q', e', rfl⟩ := two_field (fs := fs) hlo hhi
   obtain ⟨d, hd⟩ := ih q (hs ⟨a, b, q, e⟩ (by simp)) (f2 (by decide) 0 (by simp))
   obtain ⟨d', hd'⟩ := ih q' (hs ⟨a', b', q', e'⟩ (by simp)) (f2 (by decide) 1 (by simp))
   obtain ⟨n1, n2, n3, n4⟩ := f1 1 (by simp)
   dsimp only [List.getElem_cons_zero, List.getElem_cons_succ] at n1 n2 n3 n4
   obtain rfl := n1
   obtain rfl := Option.some.inj (n3 (by decide))
   obtain ⟨m1, m2, m3, m4⟩ := f1 0 (by simp)
   dsimp only [List.getElem_cons_zero] at m1 m2 m3 m4
   obtain rfl := m1
   obtain rfl := Option.some.inj (m3 (by decide))
   obtain rfl : b = false := m4
   obtain rfl : b' = false := n4
   exact ⟨_, .dict q q' d d' fl hd hd'⟩
end Go.Proofs.YteebgnhhjlgnjaaGreatDoor.V
