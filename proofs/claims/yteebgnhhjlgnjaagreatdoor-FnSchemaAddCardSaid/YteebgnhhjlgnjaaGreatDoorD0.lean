/- Arrow's types as data, and how they lie in memory. -/
import Derived.Test.YteebgnhhjlgnjaaGreatDoorV0
namespace Go.Proofs.YteebgnhhjlgnjaaGreatDoor.V
open Go.RowKit Go.Proofs.YteebgnhhjlgnjaaGreatDoorW.PrintWords Go.Proofs.YteebgnhhjlgnjaaGreatDoorW.PrintLast Go.Proofs.YteebgnhhjlgnjaaGreatDoorW.PrintMore
set_option maxHeartbeats 40000000
set_option maxRecDepth 100000
set_option linter.unusedVariables false
set_option linter.unusedSimpArgs false
mutual
inductive DT where
 | zero (t : Nat)
 | num (t : Nat) (u : Int)
 | stamp (u : Int) (z : ByteArray)
 | dec (t : Nat) (p s : Int)
 | list (t : Nat) (f : DF)
 | flist (n : Int) (f : DF)
 | struct (fs : List DF)
 | map (f : DF) (sorted : Bool)
 | union (t : Nat) (fs : List DF) (codes : List Int)
 | ree (r v : DT) (nullable : Bool)
 | dict (i v : DT) (ordered : Bool)
inductive DF where
 | mk (name : ByteArray) (type : DT) (nullable : Bool)
end
def DF.name : DF → ByteArray
 | .mk n _ _ => n
def DF.type : DF → DT
 | .mk _ t _ => t
def DF.null : DF → Bool
 | .mk _ _ b => b
def zeroT : List Nat := [101, 104, 106, 108, 110, 112, 114, 127, 129, 131, 133, 135, 137, 139, 141, 143, 198, 200, 202, 204, 206, 208, 210, 212]
def elT (t : Nat) : Nat :=
 if t = 116 then 119 else if t = 120 then 121 else if t = 125 then 126 else if t = 145 then 147 else
 if t = 214 then 216 else if t = 217 then 218 else if t = 219 then 220 else if t = 221 then 222 else
 if t = 154 then 157 else if t = 233 then 265 else if t = 180 then 181 else if t = 236 then 266 else if t = 224 then 260 else 263
def ptrAt (t g : Nat) : Value := .iface t (.pointer (some ⟨g, 0, none⟩))
def childOf (codes : List Int) (c : Nat) : Int := match codes.findIdx? (· == (c : Int)) with | some i => i | none => -1
def childIds (codes : List Int) : List Value := (List.range 128).map fun c => Value.int .i64 (childOf codes c)
mutual
def DTIn (W : World) (ok : Nat → Prop) : DT → Value → Prop
 | .zero t, v => t ∈ zeroT ∧ ∃ a, v = .iface t (.pointer (some a))
 | .num t u, v => t ∈ [116, 120, 125, 145] ∧ ∃ g, v = ptrAt t g ∧ ok g ∧ W.heap[g]? = some (.cells #[.int .i64 u] (elT t) (0, 0))
 | .stamp u z, v => ∃ g, v = ptrAt 122 g ∧ ok g ∧ W.heap[g]? = some (.cells #[.int .i64 u, .string z] 124 (0, 0))
 | .dec t p s, v => t ∈ [214, 217, 219, 221] ∧ ∃ g, v = ptrAt t g ∧ ok g ∧ W.heap[g]? = some (.cells #[.int .i32 p, .int .i32 s] (elT t) (0, 0))
 | .list t f, v => t ∈ [154, 233, 180, 236] ∧ ∃ g cs, v = ptrAt t g ∧ ok g ∧ W.heap[g]? = some (.cells (List.toArray cs) (elT t) (0, 0)) ∧ DFIn W ok f cs
 | .flist n f, v => ∃ g cs, v = ptrAt 158 g ∧ ok g ∧ W.heap[g]? = some (.cells (List.toArray (Value.int .i32 n :: cs)) 160 (0, 0)) ∧ DFIn W ok f cs
 | .struct fs, v => ∃ g A c m, v = ptrAt 165 g ∧ ok g ∧ W.heap[g]? = some (.cells #[.slice A fs.length c, .map m, .slice none 0 0, .slice none 0 0] 167 (0, 0)) ∧ fs.length ≤ c ∧ fs.length ≤ 9223372036854775807 ∧
  (0 < fs.length → ∃ b, ∃ arr : Array Value, A = some ⟨b, 0, none⟩ ∧ ok b ∧ W.heap[b]? = some (.cells arr 61 (0, 0)) ∧ DFsIn W ok fs arr.toList)
 | .map f s, v => ∃ g b cs, v = ptrAt 161 g ∧ ok g ∧ ok b ∧ W.heap[g]? = some (.cells #[.pointer (some ⟨b, 0, none⟩), .bool s] 163 (0, 0)) ∧ W.heap[b]? = some (.cells (List.toArray cs) 157 (0, 0)) ∧ DFIn W ok f cs
 | .union t fs codes, v => t ∈ [224, 226] ∧ ∃ g A c A' c', v = ptrAt t g ∧ ok g ∧ W.heap[g]? = some (.cells (List.toArray ([Value.slice A fs.length c, .slice A' codes.length c'] ++ childIds codes)) (elT t) (0, 0)) ∧ fs.length ≤ c ∧ fs.length ≤ 9223372036854775807 ∧ codes.length ≤ c' ∧ codes.length ≤ 9223372036854775807 ∧
  (0 < fs.length → ∃ b, ∃ arr : Array Value, A = some ⟨b, 0, none⟩ ∧ ok b ∧ W.heap[b]? = some (.cells arr 61 (0, 0)) ∧ DFsIn W ok fs arr.toList) ∧
  (0 < codes.length → ∃ b, ∃ arr : Array Value, A' = some ⟨b, 0, none⟩ ∧ ok b ∧ W.heap[b]? = some (.cells arr 170 (0, 0)) ∧ ∀ (j : Nat) (x : Int), codes[j]? = some x → arr[j]? = some (Value.int .i8 x))
 | .ree r v n, u => ∃ g x y, u = ptrAt 177 g ∧ ok g ∧ W.heap[g]? = some (.cells #[x, y, .bool n] 179 (0, 0)) ∧ DTIn W ok r x ∧ DTIn W ok v y
 | .dict i v o, u => ∃ g x y, u = ptrAt 229 g ∧ ok g ∧ W.heap[g]? = some (.cells #[x, y, .bool o] 231 (0, 0)) ∧ DTIn W ok i x ∧ DTIn W ok v y
def DFIn (W : World) (ok : Nat → Prop) : DF → List Value → Prop
 | .mk n t b, cs => ∃ x, cs = [.string n, x, .bool b, .slice none 0 0, .slice none 0 0] ∧ DTIn W ok t x
def DFsIn (W : World) (ok : Nat → Prop) : List DF → List Value → Prop
 | [], _ => True
 | f :: r, cs => ∃ c rest, cs = c ++ rest ∧ DFIn W ok f c ∧ DFsIn W ok r rest
end
def DE : List Nat := [119, 121, 126, 147, 124, 216, 218, 220, 222, 157, 265, 181, 266, 160, 167, 163, 260, 263, 179, 231, 61, 170]
theorem DFIn.len {W : World} {ok : Nat → Prop} {f : DF} {cs : List Value} (h : DFIn W ok f cs) : cs.length = 5 := by
 obtain ⟨n, t, b⟩ := f
 obtain ⟨x, rfl, _⟩ := h
 rfl
theorem DTIn.form {W : World} {ok : Nat → Prop} {t : DT} {v : Value} (h : DTIn W ok t v) : ∃ q a, v = .iface q (.pointer (some a)) := by
 cases t <;> simp only [DTIn] at h
 case zero => obtain ⟨_, a, rfl⟩ := h; exact ⟨_, _, rfl⟩
 case num => obtain ⟨_, g, rfl, _⟩ := h; exact ⟨_, _, rfl⟩
 case stamp => obtain ⟨g, rfl, _⟩ := h; exact ⟨_, _, rfl⟩
 case dec => obtain ⟨_, g, rfl, _⟩ := h; exact ⟨_, _, rfl⟩
 case list => obtain ⟨_, g, _, rfl, _⟩ := h; exact ⟨_, _, rfl⟩
 case flist => obtain ⟨g, _, rfl, _⟩ := h; exact ⟨_, _, rfl⟩
 case struct => obtain ⟨g, _, _, _, rfl, _⟩ := h; exact ⟨_, _, rfl⟩
 case map => obtain ⟨g, _, _, rfl, _⟩ := h; exact ⟨_, _, rfl⟩
 case union => obtain ⟨_, g, _, _, _, _, rfl, _⟩ := h; exact ⟨_, _, rfl⟩
 case ree => obtain ⟨g, _, _, rfl, _⟩ := h; exact ⟨_, _, rfl⟩
 case dict => obtain ⟨g, _, _, rfl, _⟩ := h; exact ⟨_, _, rfl⟩
theorem DFIn.one {W : World} {ok : Nat → Prop} {f : DF} {cs : List Value} (h : DFIn W ok f cs) : ∀ u ∈ cs, u.oneCell' = true := by
 obtain ⟨n, t, b⟩ := f
 obtain ⟨x, rfl, h⟩ := h
 obtain ⟨q, a, rfl⟩ := DTIn.form h
 intro u hu
 simp only [List.mem_cons, List.not_mem_nil, or_false] at hu
 rcases hu with rfl | rfl | rfl | rfl | rfl <;> rfl
theorem elT_mem {t : Nat} (h : t ∈ [116, 120, 125, 145] ∨ t ∈ [214, 217, 219, 221] ∨ t ∈ [154, 233, 180, 236] ∨ t ∈ [224, 226]) : elT t ∈ DE := by
 simp only [List.mem_cons, List.not_mem_nil, or_false] at h
 rcases h with (rfl | rfl | rfl | rfl) | (rfl | rfl | rfl | rfl) | (rfl | rfl | rfl | rfl) | (rfl | rfl) <;> decide
section
variable {W W' : World} {ok ok' : Nat → Prop}
mutual
theorem DTIn.step (hm : ∀ k q cells, ok k → k < W.heap.size → q ∈ DE → W.heap[k]? = some (.cells cells q (0, 0)) → W'.heap[k]? = some (.cells cells q (0, 0)) ∧ ok' k) : ∀ {t : DT} {v : Value}, DTIn W ok t v → DTIn W' ok' t v
 | .zero t, v, ⟨ht, h⟩ => ⟨ht, h⟩
 | .num t u, v, ⟨ht, g, e, hg, hc⟩ => have k := hm g _ _ hg (blk_lt hc) (elT_mem (.inl ht)) hc; ⟨ht, g, e, k.2, k.1⟩
 | .stamp u z, v, ⟨g, e, hg, hc⟩ => have k := hm g _ _ hg (blk_lt hc) (by decide) hc; ⟨g, e, k.2, k.1⟩
 | .dec t p s, v, ⟨ht, g, e, hg, hc⟩ => have k := hm g _ _ hg (blk_lt hc) (elT_mem (.inr (.inl ht))) hc; ⟨ht, g, e, k.2, k.1⟩
 | .list t f, v, ⟨ht, g, cs, e, hg, hc, hf⟩ => have k := hm g _ _ hg (blk_lt hc) (elT_mem (.inr (.inr (.inl ht)))) hc; ⟨ht, g, cs, e, k.2, k.1, DFIn.step hm hf⟩
 | .flist n f, v, ⟨g, cs, e, hg, hc, hf⟩ => have k := hm g _ _ hg (blk_lt hc) (by decide) hc; ⟨g, cs, e, k.2, k.1, DFIn.step hm hf⟩
 | .struct fs, v, ⟨g, A, c, m, e, hg, hc, h1, h2, hr⟩ => have k := hm g _ _ hg (blk_lt hc) (by decide) hc; ⟨g, A, c, m, e, k.2, k.1, h1, h2, fun hn =>
  have ⟨b, arr, eA, hb, hbc, hl⟩ := hr hn
  have kb := hm b _ _ hb (blk_lt hbc) (by decide) hbc
  ⟨b, arr, eA, kb.2, kb.1, DFsIn.step hm hl⟩⟩
 | .map f s, v, ⟨g, b, cs, e, hg, hb, hc, hbc, hf⟩ => have k := hm g _ _ hg (blk_lt hc) (by decide) hc; have kb := hm b _ _ hb (blk_lt hbc) (by decide) hbc; ⟨g, b, cs, e, k.2, kb.2, k.1, kb.1, DFIn.step hm hf⟩
 | .union t fs codes, v, ⟨ht, g, A, c, A', c', e, hg, hc, h1, h2, h3, h4, hr, hs⟩ => have k := hm g _ _ hg (blk_lt hc) (elT_mem (.inr (.inr (.inr ht)))) hc; ⟨ht, g, A, c, A', c', e, k.2, k.1, h1, h2, h3, h4, fun hn =>
  have ⟨b, arr, eA, hb, hbc, hl⟩ := hr hn
  have kb := hm b _ _ hb (blk_lt hbc) (by decide) hbc
  ⟨b, arr, eA, kb.2, kb.1, DFsIn.step hm hl⟩, fun hn =>
  have ⟨b, arr, eA, hb, hbc, hl⟩ := hs hn
  have kb := hm b _ _ hb (blk_lt hbc) (by decide) hbc
  ⟨b, arr, eA, kb.2, kb.1, hl⟩⟩
 | .ree r v n, u, ⟨g, x, y, e, hg, hc, hx, hy⟩ => have k := hm g _ _ hg (blk_lt hc) (by decide) hc; ⟨g, x, y, e, k.2, k.1, DTIn.step hm hx, DTIn.step hm hy⟩
 | .dict r v n, u, ⟨g, x, y, e, hg, hc, hx, hy⟩ => have k := hm g _ _ hg (blk_lt hc) (by decide) hc; ⟨g, x, y, e, k.2, k.1, DTIn.step hm hx, DTIn.step hm hy⟩
theorem DFIn.step (hm : ∀ k q cells, ok k → k < W.heap.size → q ∈ DE → W.heap[k]? = some (.cells cells q (0, 0)) → W'.heap[k]? = some (.cells cells q (0, 0)) ∧ ok' k) : ∀ {f : DF} {cs : List Value}, DFIn W ok f cs → DFIn W' ok' f cs
 | .mk n t b, cs, ⟨x, e, h⟩ => ⟨x, e, DTIn.step hm h⟩
theorem DFsIn.step (hm : ∀ k q cells, ok k → k < W.heap.size → q ∈ DE → W.heap[k]? = some (.cells cells q (0, 0)) → W'.heap[k]? = some (.cells cells q (0, 0)) ∧ ok' k) : ∀ {fs : List DF} {cs : List Value}, DFsIn W ok fs cs → DFsIn W' ok' fs cs
 | [], cs, _ => trivial
 | f :: r, cs, ⟨c, rest, e, hf, hr⟩ => ⟨c, rest, e, DFIn.step hm hf, DFsIn.step hm hr⟩
end
end
theorem DTIn.below {W W' : World} {ok : Nat → Prop} {t : DT} {v : Value} (h : DTIn W ok t v) (hb : Below W.heap.size W W') : DTIn W' ok t v :=
 DTIn.step (fun k q cells hk hl _ hc => ⟨(hb.block k hl).trans hc, hk⟩) h
theorem DTIn.mono {W : World} {ok ok' : Nat → Prop} {t : DT} {v : Value} (h : DTIn W ok t v) (hk : ∀ k, ok k → ok' k) : DTIn W ok' t v :=
 DTIn.step (fun k q cells ho _ _ hc => ⟨hc, hk k ho⟩) h
def kDF : Kd DF where
 sz := 5
 E := DE
 K := fun W f cs => DFIn W (fun _ => True) f cs
 M := fun W base ok f cs => DFIn W (fun k => ok k ∧ base ≤ k) f cs
 K_len := fun h => h.len
 K_one := fun h => h.one
 K_below := fun hb h => DFIn.step (fun k q cells hk hl _ hc => ⟨(hb.block k hl).trans hc, hk⟩) h
 K_of_M := fun h => DFIn.step (fun k q cells _ _ _ hc => ⟨hc, trivial⟩) h
 M_mono := fun hm h => DFIn.step (fun k q cells hk _ _ hc => ⟨hc, hm _ hk.1, hk.2⟩) h
 M_bound := fun h => DFIn.step (fun k q cells hk hl hq hc => ⟨hc, ⟨hk.1, hk.2, hl, q, hq, cells, hc⟩, hk.2⟩) h
 M_move := fun hm h => DFIn.step (fun k q cells hk _ _ hc => ⟨(hm k hk.1).trans hc, hk⟩) h
 M_lower := fun hb h => DFIn.step (fun k q cells hk _ _ hc => ⟨hc, hk.1, Nat.le_trans hb hk.2⟩) h
theorem calls_at {P : Program} {f : FuncId} {a : Array Value} {W : World} {Q : Ending → World → Prop} (h : ∀ w0, w0 = W → Calls P f a w0 Q) : Calls P f a W Q := h _ rfl
theorem wp_at {P : Program} {c : Code} {Q : Exit → Act → World → Prop} {a : Act} {W : World} (h : ∀ w0, w0 = W → Code.wp P c Q a w0) : Code.wp P c Q a W := h _ rfl
theorem blk_alloc_ {W : World} {g : Nat} {o p : Obj} (h : W.heap[g]? = some o) : (W.alloc p).heap[g]? = some o := blk_below h (below_alloc (Below.refl _ _) _)
theorem blk_drew_ {W : World} {g : Nat} {o : Obj} (h : W.heap[g]? = some o) : W.drew.heap[g]? = some o := h
theorem blk_put_at {W : World} {g : Nat} {t : TypeId} {cs cs' : Array Value} {i : Nat} {u : Value} (h : W.heap[g]? = some (.cells cs t (0, 0))) (e : cs.setIfInBounds i u = cs') : (W.setCell ⟨g, i, none⟩ u).heap[g]? = some (.cells cs' t (0, 0)) := blk_put h i u e
theorem heap_setCell_other (w : World) (p : Addr) (k : Nat) (u : Value) (h : k ≠ p.block) : (w.setCell p u).heap[k]? = w.heap[k]? := Below.heap_setCell w p u k h
theorem blk_other_ {W : World} {g b i : Nat} {o : Obj} {u : Value} (hne : g ≠ b) (h : W.heap[g]? = some o) : (W.setCell ⟨b, i, none⟩ u).heap[g]? = some o := (heap_setCell_other W ⟨b, i, none⟩ g u hne).trans h
def Made (w : World) (d : DT) (e : Ending) (w' : World) : Prop := ∃ v, e = .returned v ∧ DTIn w' (fun k => w.heap.size ≤ k) d v ∧ Below w.heap.size w w'
theorem blk_new_at {w : World} {o : Obj} {g : Nat} (h : g = w.heap.size) : (w.alloc o).heap[g]? = some o := by rw [h]; exact blk_new w o
def ba (n m : Nat) : Array Bool := ((List.range n).map fun i => m.testBit i).toArray
section
variable {P : Program} {md : Region.Mode} {ops : Array Oper} {Q : Exit → Act → World → Prop} {S : World → Prop} {ds : List Nat} {n m fuel : Nat} {oi : Oper} {v : Value} {a a' : Act} {w : World} {l : Array Bool}
theorem pu (i N M : Nat) (h : wpAnyLast P md ops Q S ds fuel (ba n M) a' w) (hi : ops[i]? = some oi := by exact rfl) (hN : oi.dst = some N := by exact rfl) (hc : anyB md ops (ba n m) (ba n M) i = true := by kernel_rfl)
 (hQ : ∀ c a w, Q (.panic c) (a.put oi.dst v) w → Q (.panic c) a w := by exact fun _ _ _ h => h) (hw : Region.wanted oi (yielded ops a.tmps) = true := by rfl)
 (hy : ∀ w, (execOp a.eval oi).run P w = .ok (.value v) w := by intro w'; go_simp; with_reducible rfl) (ha : a.put (some N) v = a' := by simp only [Act.put, s1_, s2_, s3_, i64_w, i32_w]; rfl) :
 wpAnyLast P md ops Q S ds (fuel + 1) (ba n m) a w :=
 pure_ _ hi hN hc hQ (Or.inl ⟨hw, hy⟩) ha h
theorem ta (i N M : Nat) (h : wpAnyLast P md ops Q S ds fuel (ba n M) a' w) (hi : ops[i]? = some oi := by exact rfl) (hN : oi.dst = some N := by exact rfl) (hc : takeB md ops ds (ba n m) (ba n M) i = true := by kernel_rfl)
 (hQ : ∀ c a w, Q (.panic c) (a.put oi.dst v) w → Q (.panic c) a w := by exact fun _ _ _ h => h) (hw : Region.wanted oi (yielded ops a.tmps) = true := by rfl)
 (hy : ∀ w, S w → (execOp a.eval oi).run P w = .ok (.value v) w := by intro w' hs; repeat (obtain ⟨_, hs⟩ := hs); go_simp; with_reducible rfl) (hS : S w := by assumption) (ha : a.put (some N) v = a' := by simp only [Act.put, s1_, s2_, s3_, i64_w, i32_w]; rfl) :
 wpAnyLast P md ops Q S ds (fuel + 1) (ba n m) a w :=
 take_ _ hi hN hc hQ (Or.inl ⟨hw, hy⟩) hS ha h
theorem no (N : Nat) (h : wpAnyLast P md ops Q S ds fuel l a' w) (ha : Act.put a (some N) v = a' := by simp only [Act.put, s1_, s2_, s3_, i64_w, i32_w]; rfl) : wpAnyLast P md ops Q S ds fuel l (a.put (some N) v) w :=
 norm_ ha h
structure Kept (S : World → Prop) : Prop where
 out : ∀ w w' : World, Below w.heap.size w w' → S w → S w'
theorem sa (n : Nat) (S : World → Prop) {id : Nat} (h : Kept S → ∀ w' : World, S w' → Below w.heap.size w w' → wpAnyLast P .any ops Q S [] n (ba n 0) a w') (hS : S w := by (repeat' apply And.intro) <;> first | exact Below.refl _ _ | assumption)
 (hk : Kept S := by refine ⟨fun _ _ hb hs => ?_⟩; repeat (obtain ⟨_, hs⟩ := hs); (repeat' apply And.intro) <;> first | exact pw_cell_below hb (by assumption) | exact below_step (by assumption) hb | exact blk_below (by assumption) hb)
 (hm : P.follows .mixedOrders = true := by kernel_rfl) (hn : ops.size = n := by exact rfl) (hl : Array.replicate n false = ba n 0 := by rfl) : (Code.region id ops true).wp P Q a w :=
 have hb := b3_ (Below.refl w.heap.size w)
 start_ _ hm hn hl (hk.out _ _ hb hS) (fun hs => h hk _ hs hb)
theorem more_ {S' : World → Prop} (himp : ∀ w, S' w → S w) : ∀ {fuel : Nat} {l : Array Bool} {a : Act} {w : World}, S' w → wpAnyLast P md ops Q S' [] fuel l a w → wpAnyLast P md ops Q S [] fuel l a w
 | 0, _, _, _, _, h => h
 | _ + 1, _, _, _, hS, h => ⟨h.1, fun i hi => wpOp_mono (fun a' w' h' => ⟨fun _ _ => himp _ (h'.1 (by simp) hS), more_ himp (h'.1 (by simp) hS) h'.2⟩) (h.2 i hi)⟩
theorem mo (S' : World → Prop) (hS : S' w) (h : Kept S' → S' w → wpAnyLast P md ops Q S' [] fuel l a w)
 (hk : Kept S' := by refine ⟨fun _ _ hb hs => ?_⟩; repeat (obtain ⟨_, hs⟩ := hs); (repeat' apply And.intro) <;> first | exact pw_cell_below hb (by assumption) | exact below_step (by assumption) hb | exact blk_below (by assumption) hb)
 (himp : ∀ w, S' w → S w := by intro w' hs; repeat (obtain ⟨_, hs⟩ := hs); (repeat' apply And.intro) <;> assumption) : wpAnyLast P md ops Q S [] fuel l a w := more_ himp hS (h hk hS)
theorem rdy (rs : List Nat) (h : AllReadyL P md ops Q S ds fuel l a w rs) (hr : (Region.ready md ops l == rs) = true := by kernel_rfl) (hne : rs ≠ [] := by decide) : wpAnyLast P md ops Q S ds (fuel + 1) l a w := wpAnyLast_ready (by simpa using hr) hne h
theorem ra (i N M : Nat) {rs : List Nat} (o : Obj) (hk : Kept S) (hs : S w) (h : S (w.alloc o) → Below w.heap.size w (w.alloc o) → wpAnyLast P md ops Q S ds fuel (ba n M) (a.put (some N) v) (w.alloc o))
 (hr : AllReadyL P md ops Q S ds fuel (ba n m) a w rs) (hi : ops[i]? = some oi := by exact rfl) (hN : oi.dst = some N := by exact rfl)
 (hl : (ba n m).setIfInBounds i true = ba n M := by kernel_rfl) (hd : i ∉ ds := by decide) (hw : Region.wanted oi (yielded ops a.tmps) = true := by rfl) (hrun : (execOp a.eval oi).run P w = .ok (.value v) (w.alloc o) := by first | (go_simp; done) | (go_simp; rfl)) : AllReadyL P md ops Q S ds fuel (ba n m) a w (i :: rs) := by
 have hb := (Below.refl w.heap.size w).alloc (Nat.le_refl _) o
 have hs' := hk.out _ _ hb hs
 refine AllReadyL.cons hi hd (fun K hK => ?_) hr
 rw [hl] at hK
 rw [if_pos hw]
 unfold Oper.wp
 rw [hrun]
 show K (a.put oi.dst v) (w.alloc o)
 rw [hN]
 exact hK.out _ _ hs' (fun _ => h hs' hb)
theorem rs (i M : Nat) {rs : List Nat} (w1 : World) (hrun : (execOp a.eval oi).run P w = .ok .skip w1) (hs' : S w1) (h : wpAnyLast P md ops Q S ds fuel (ba n M) a w1)
 (hr : AllReadyL P md ops Q S ds fuel (ba n m) a w rs) (hi : ops[i]? = some oi := by exact rfl) (hN : oi.dst = none := by exact rfl)
 (hl : (ba n m).setIfInBounds i true = ba n M := by kernel_rfl) (hd : i ∉ ds := by decide) (hw : Region.wanted oi (yielded ops a.tmps) = true := by rfl) : AllReadyL P md ops Q S ds fuel (ba n m) a w (i :: rs) := by
 refine AllReadyL.cons hi hd (fun K hK => ?_) hr
 rw [hl] at hK
 rw [if_pos hw]
 refine (show if Region.wanted oi (yielded ops a.tmps) = true then Oper.wp P oi a w K Q else K (a.put none undef) w from skip_ hw hN hrun ?_) |> fun h => by rwa [if_pos hw] at h
 exact hK.out _ _ hs' (fun _ => h)
theorem ca (i N M : Nat) {f : FuncId} {fn : Func} {os : Array Operand} {ts : Array TypeId} {R : Ending → World → Prop} (hf : P.funcs[f]? = some fn) (args : Array Value) (hk : Kept S) (hs : S w)
 (hcon : Calls P f args w fun e w' => R e w' ∧ Below w.heap.size w w') (h : ∀ e w', R e w' → S w' → Below w.heap.size w w' → ∃ v, e = .returned v ∧ wpAnyLast P md ops Q S ds fuel (ba n M) (a.put (some N) v) w')
 (hi : ops[i]? = some oi := by exact rfl) (hN : oi.dst = some N := by exact rfl) (hc : readyB md ops (ba n m) (ba n M) i = true := by kernel_rfl)
 (hd : i ∉ ds := by decide) (hname : (fn.name == "runtime.NumGoroutine") = false := by kernel_rfl) (hb : fn.body.isSome = true := by rfl)
 (hw : Region.wanted oi (yielded ops a.tmps) = true := by rfl) (hop : oi.op = .call { callee := .value (.func f), args := os, argTypes := ts } := by exact rfl) (hargs : os.map a.eval = args := by (try simp only [List.map_toArray, List.map_cons, List.map_nil]); first | done | rfl) :
 wpAnyLast P md ops Q S ds (fuel + 1) (ba n m) a w := by
 refine one_ _ hi hN hc hd (fun K hK => ?_)
 refine goes_ hf hname hb args hw hN hop hargs ?_
 refine hcon.mono ?_
 rintro e w' ⟨hR, hbe⟩
 obtain ⟨v, he, h'⟩ := h e w' hR (hk.out _ _ hbe hs) hbe
 exact ⟨v, he, hK.out _ _ (hk.out _ _ hbe hs) (fun _ => h')⟩
end
end Go.Proofs.YteebgnhhjlgnjaaGreatDoor.V
