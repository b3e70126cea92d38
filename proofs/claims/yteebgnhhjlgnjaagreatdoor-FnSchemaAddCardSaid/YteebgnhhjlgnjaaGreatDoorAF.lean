/- impl.arrowType at every type that is asked. -/
import Derived.Test.YteebgnhhjlgnjaaGreatDoorAT1
import Derived.Test.YteebgnhhjlgnjaaGreatDoorAN1
import Derived.Test.YteebgnhhjlgnjaaGreatDoorAN3
import Derived.Test.YteebgnhhjlgnjaaGreatDoorAN5
namespace Go.Proofs.YteebgnhhjlgnjaaGreatDoor.V
open Go.RowKit Go.Proofs.YteebgnhhjlgnjaaGreatDoorW.PrintWords Go.Proofs.YteebgnhhjlgnjaaGreatDoorW.PrintLast Go.Proofs.YteebgnhhjlgnjaaGreatDoorW.PrintMore
set_option maxHeartbeats 40000000
set_option maxRecDepth 100000
set_option linter.unusedVariables false
set_option linter.unusedSimpArgs false
theorem at_nest12 (wd : Int) (s : Bool) (u p q : Int) (z : ByteArray) (fl : Bool) (A8 A9 : Option Addr) (n8 c8 n9 c9 : Nat) (d : DT) (w : World)
 (h64 : ∀ W, Below w.heap.size w W → Calls Tryz.prog 64 #[.agg #[.int .i64 12, .int .i64 wd, .bool s, .int .i64 u, .int .i64 p, .int .i64 q, .string z, .bool fl, .slice A8 n8 c8, .slice A9 n9 c9]] W (Made W d)) : Calls Tryz.prog 34 #[.agg #[.int .i64 12, .int .i64 wd, .bool s, .int .i64 u, .int .i64 p, .int .i64 q, .string z, .bool fl, .slice A8 n8 c8, .slice A9 n9 c9]] w (Made w d) := by
 go_enter Tryz.func34, Tryz.ntmps34
 go_wp2_with (go_at_call 64; fail)
 refine (h64 _ (b1_ (Below.refl _ _) _)).mono ?_
 rintro e w1 ⟨v, rfl, hd, hb⟩
 have HD := Aside0.mk (And.intro hd hb)
 clear hd hb h64
 go_wp2
 go_ret
 obtain ⟨hd, hb⟩ := HD.out
 exact ⟨_, rfl, hd.mono (fun k hk => Nat.le_trans (by simp) hk), below_step (b1_ (Below.refl _ _) _) hb⟩
theorem at_nest21 (wd : Int) (s : Bool) (u p q : Int) (z : ByteArray) (fl : Bool) (A8 A9 : Option Addr) (n8 c8 n9 c9 : Nat) (d : DT) (w : World)
 (h64 : ∀ W, Below w.heap.size w W → Calls Tryz.prog 64 #[.agg #[.int .i64 21, .int .i64 wd, .bool s, .int .i64 u, .int .i64 p, .int .i64 q, .string z, .bool fl, .slice A8 n8 c8, .slice A9 n9 c9]] W (Made W d)) : Calls Tryz.prog 34 #[.agg #[.int .i64 21, .int .i64 wd, .bool s, .int .i64 u, .int .i64 p, .int .i64 q, .string z, .bool fl, .slice A8 n8 c8, .slice A9 n9 c9]] w (Made w d) := by
 go_enter Tryz.func34, Tryz.ntmps34
 go_wp2_with (go_at_call 64; fail)
 refine (h64 _ (b1_ (Below.refl _ _) _)).mono ?_
 rintro e w1 ⟨v, rfl, hd, hb⟩
 have HD := Aside0.mk (And.intro hd hb)
 clear hd hb h64
 go_wp2
 go_ret
 obtain ⟨hd, hb⟩ := HD.out
 exact ⟨_, rfl, hd.mono (fun k hk => Nat.le_trans (by simp) hk), below_step (b1_ (Below.refl _ _) _) hb⟩
theorem at_nest25 (wd : Int) (s : Bool) (u p q : Int) (z : ByteArray) (fl : Bool) (A8 A9 : Option Addr) (n8 c8 n9 c9 : Nat) (d : DT) (w : World)
 (h64 : ∀ W, Below w.heap.size w W → Calls Tryz.prog 64 #[.agg #[.int .i64 25, .int .i64 wd, .bool s, .int .i64 u, .int .i64 p, .int .i64 q, .string z, .bool fl, .slice A8 n8 c8, .slice A9 n9 c9]] W (Made W d)) : Calls Tryz.prog 34 #[.agg #[.int .i64 25, .int .i64 wd, .bool s, .int .i64 u, .int .i64 p, .int .i64 q, .string z, .bool fl, .slice A8 n8 c8, .slice A9 n9 c9]] w (Made w d) := by
 go_enter Tryz.func34, Tryz.ntmps34
 go_wp2_with (go_at_call 64; fail)
 refine (h64 _ (b1_ (Below.refl _ _) _)).mono ?_
 rintro e w1 ⟨v, rfl, hd, hb⟩
 have HD := Aside0.mk (And.intro hd hb)
 clear hd hb h64
 go_wp2
 go_ret
 obtain ⟨hd, hb⟩ := HD.out
 exact ⟨_, rfl, hd.mono (fun k hk => Nat.le_trans (by simp) hk), below_step (b1_ (Below.refl _ _) _) hb⟩
theorem at_nest26 (wd : Int) (s : Bool) (u p q : Int) (z : ByteArray) (fl : Bool) (A8 A9 : Option Addr) (n8 c8 n9 c9 : Nat) (d : DT) (w : World)
 (h64 : ∀ W, Below w.heap.size w W → Calls Tryz.prog 64 #[.agg #[.int .i64 26, .int .i64 wd, .bool s, .int .i64 u, .int .i64 p, .int .i64 q, .string z, .bool fl, .slice A8 n8 c8, .slice A9 n9 c9]] W (Made W d)) : Calls Tryz.prog 34 #[.agg #[.int .i64 26, .int .i64 wd, .bool s, .int .i64 u, .int .i64 p, .int .i64 q, .string z, .bool fl, .slice A8 n8 c8, .slice A9 n9 c9]] w (Made w d) := by
 go_enter Tryz.func34, Tryz.ntmps34
 go_wp2_with (go_at_call 64; fail)
 refine (h64 _ (b1_ (Below.refl _ _) _)).mono ?_
 rintro e w1 ⟨v, rfl, hd, hb⟩
 have HD := Aside0.mk (And.intro hd hb)
 clear hd hb h64
 go_wp2
 go_ret
 obtain ⟨hd, hb⟩ := HD.out
 exact ⟨_, rfl, hd.mono (fun k hk => Nat.le_trans (by simp) hk), below_step (b1_ (Below.refl _ _) _) hb⟩
theorem at_nest16 (wd : Int) (s : Bool) (u p q : Int) (z : ByteArray) (fl : Bool) (A8 A9 : Option Addr) (n8 c8 n9 c9 : Nat) (d : DT) (w : World)
 (h64 : ∀ W, Below w.heap.size w W → Calls Tryz.prog 64 #[.agg #[.int .i64 16, .int .i64 wd, .bool s, .int .i64 u, .int .i64 p, .int .i64 q, .string z, .bool fl, .slice A8 n8 c8, .slice A9 n9 c9]] W (Made W d)) : Calls Tryz.prog 34 #[.agg #[.int .i64 16, .int .i64 wd, .bool s, .int .i64 u, .int .i64 p, .int .i64 q, .string z, .bool fl, .slice A8 n8 c8, .slice A9 n9 c9]] w (Made w d) := by
 go_enter Tryz.func34, Tryz.ntmps34
 go_wp2_with (go_at_call 64; fail)
 refine (h64 _ (b1_ (Below.refl _ _) _)).mono ?_
 rintro e w1 ⟨v, rfl, hd, hb⟩
 have HD := Aside0.mk (And.intro hd hb)
 clear hd hb h64
 go_wp2
 go_ret
 obtain ⟨hd, hb⟩ := HD.out
 exact ⟨_, rfl, hd.mono (fun k hk => Nat.le_trans (by simp) hk), below_step (b1_ (Below.refl _ _) _) hb⟩
theorem at_nest13 (wd : Int) (s : Bool) (u p q : Int) (z : ByteArray) (fl : Bool) (A8 A9 : Option Addr) (n8 c8 n9 c9 : Nat) (d : DT) (w : World)
 (h64 : ∀ W, Below w.heap.size w W → Calls Tryz.prog 64 #[.agg #[.int .i64 13, .int .i64 wd, .bool s, .int .i64 u, .int .i64 p, .int .i64 q, .string z, .bool fl, .slice A8 n8 c8, .slice A9 n9 c9]] W (Made W d)) : Calls Tryz.prog 34 #[.agg #[.int .i64 13, .int .i64 wd, .bool s, .int .i64 u, .int .i64 p, .int .i64 q, .string z, .bool fl, .slice A8 n8 c8, .slice A9 n9 c9]] w (Made w d) := by
 go_enter Tryz.func34, Tryz.ntmps34
 go_wp2_with (go_at_call 64; fail)
 refine (h64 _ (b1_ (Below.refl _ _) _)).mono ?_
 rintro e w1 ⟨v, rfl, hd, hb⟩
 have HD := Aside0.mk (And.intro hd hb)
 clear hd hb h64
 go_wp2
 go_ret
 obtain ⟨hd, hb⟩ := HD.out
 exact ⟨_, rfl, hd.mono (fun k hk => Nat.le_trans (by simp) hk), below_step (b1_ (Below.refl _ _) _) hb⟩
theorem at_nest17 (wd : Int) (s : Bool) (u p q : Int) (z : ByteArray) (fl : Bool) (A8 A9 : Option Addr) (n8 c8 n9 c9 : Nat) (d : DT) (w : World)
 (h64 : ∀ W, Below w.heap.size w W → Calls Tryz.prog 64 #[.agg #[.int .i64 17, .int .i64 wd, .bool s, .int .i64 u, .int .i64 p, .int .i64 q, .string z, .bool fl, .slice A8 n8 c8, .slice A9 n9 c9]] W (Made W d)) : Calls Tryz.prog 34 #[.agg #[.int .i64 17, .int .i64 wd, .bool s, .int .i64 u, .int .i64 p, .int .i64 q, .string z, .bool fl, .slice A8 n8 c8, .slice A9 n9 c9]] w (Made w d) := by
 go_enter Tryz.func34, Tryz.ntmps34
 go_wp2_with (go_at_call 64; fail)
 refine (h64 _ (b1_ (Below.refl _ _) _)).mono ?_
 rintro e w1 ⟨v, rfl, hd, hb⟩
 have HD := Aside0.mk (And.intro hd hb)
 clear hd hb h64
 go_wp2
 go_ret
 obtain ⟨hd, hb⟩ := HD.out
 exact ⟨_, rfl, hd.mono (fun k hk => Nat.le_trans (by simp) hk), below_step (b1_ (Below.refl _ _) _) hb⟩
theorem at_nest14 (wd : Int) (s : Bool) (u p q : Int) (z : ByteArray) (fl : Bool) (A8 A9 : Option Addr) (n8 c8 n9 c9 : Nat) (d : DT) (w : World)
 (h64 : ∀ W, Below w.heap.size w W → Calls Tryz.prog 64 #[.agg #[.int .i64 14, .int .i64 wd, .bool s, .int .i64 u, .int .i64 p, .int .i64 q, .string z, .bool fl, .slice A8 n8 c8, .slice A9 n9 c9]] W (Made W d)) : Calls Tryz.prog 34 #[.agg #[.int .i64 14, .int .i64 wd, .bool s, .int .i64 u, .int .i64 p, .int .i64 q, .string z, .bool fl, .slice A8 n8 c8, .slice A9 n9 c9]] w (Made w d) := by
 go_enter Tryz.func34, Tryz.ntmps34
 go_wp2_with (go_at_call 64; fail)
 refine (h64 _ (b1_ (Below.refl _ _) _)).mono ?_
 rintro e w1 ⟨v, rfl, hd, hb⟩
 have HD := Aside0.mk (And.intro hd hb)
 clear hd hb h64
 go_wp2
 go_ret
 obtain ⟨hd, hb⟩ := HD.out
 exact ⟨_, rfl, hd.mono (fun k hk => Nat.le_trans (by simp) hk), below_step (b1_ (Below.refl _ _) _) hb⟩
theorem at_nest22 (wd : Int) (s : Bool) (u p q : Int) (z : ByteArray) (fl : Bool) (A8 A9 : Option Addr) (n8 c8 n9 c9 : Nat) (d : DT) (w : World)
 (h64 : ∀ W, Below w.heap.size w W → Calls Tryz.prog 64 #[.agg #[.int .i64 22, .int .i64 wd, .bool s, .int .i64 u, .int .i64 p, .int .i64 q, .string z, .bool fl, .slice A8 n8 c8, .slice A9 n9 c9]] W (Made W d)) : Calls Tryz.prog 34 #[.agg #[.int .i64 22, .int .i64 wd, .bool s, .int .i64 u, .int .i64 p, .int .i64 q, .string z, .bool fl, .slice A8 n8 c8, .slice A9 n9 c9]] w (Made w d) := by
 go_enter Tryz.func34, Tryz.ntmps34
 go_wp2_with (go_at_call 64; fail)
 refine (h64 _ (b1_ (Below.refl _ _) _)).mono ?_
 rintro e w1 ⟨v, rfl, hd, hb⟩
 have HD := Aside0.mk (And.intro hd hb)
 clear hd hb h64
 go_wp2
 go_ret
 obtain ⟨hd, hb⟩ := HD.out
 exact ⟨_, rfl, hd.mono (fun k hk => Nat.le_trans (by simp) hk), below_step (b1_ (Below.refl _ _) _) hb⟩
theorem at_nest27 (wd : Int) (s : Bool) (u p q : Int) (z : ByteArray) (fl : Bool) (A8 A9 : Option Addr) (n8 c8 n9 c9 : Nat) (d : DT) (w : World)
 (h64 : ∀ W, Below w.heap.size w W → Calls Tryz.prog 64 #[.agg #[.int .i64 27, .int .i64 wd, .bool s, .int .i64 u, .int .i64 p, .int .i64 q, .string z, .bool fl, .slice A8 n8 c8, .slice A9 n9 c9]] W (Made W d)) : Calls Tryz.prog 34 #[.agg #[.int .i64 27, .int .i64 wd, .bool s, .int .i64 u, .int .i64 p, .int .i64 q, .string z, .bool fl, .slice A8 n8 c8, .slice A9 n9 c9]] w (Made w d) := by
 go_enter Tryz.func34, Tryz.ntmps34
 go_wp2_with (go_at_call 64; fail)
 refine (h64 _ (b1_ (Below.refl _ _) _)).mono ?_
 rintro e w1 ⟨v, rfl, hd, hb⟩
 have HD := Aside0.mk (And.intro hd hb)
 clear hd hb h64
 go_wp2
 go_ret
 obtain ⟨hd, hb⟩ := HD.out
 exact ⟨_, rfl, hd.mono (fun k hk => Nat.le_trans (by simp) hk), below_step (b1_ (Below.refl _ _) _) hb⟩
theorem fd_names {sub : S28 → DT → Prop} {fs : List S30} {ds : List DF} (h : All2 (FD sub) fs ds) : ∀ d ∈ ds, d.name.size ≤ maxLen := by
 induction h with
 | nil => intro d hd; cases hd
 | cons hab _ ih =>
  obtain ⟨n, T, t, rfl, rfl, _, hn⟩ := hab
  intro d hd
  rcases List.mem_cons.1 hd with rfl | hd
  ·show n.size ≤ maxLen
   unfold maxLen
   omega
  ·exact ih d hd
theorem makesT : ∀ (n : Nat) (T : S28) (d : DT), TD n T d → MakesT T d
 | 0, _, _, h => h.elim
 | n + 1, T, d, h => by
  have ih := makesT n
  intro w A8 A9 c8 c9 g8 g9
  cases h with
  | zero k wd s u t h =>
   simp only [zeroTab, List.mem_cons, List.not_mem_nil, or_false, Prod.mk.injEq] at h
   rcases h with ⟨rfl, rfl, rfl, rfl, rfl⟩ | ⟨rfl, rfl, rfl, rfl, rfl⟩ | ⟨rfl, rfl, rfl, rfl, rfl⟩ | ⟨rfl, rfl, rfl, rfl, rfl⟩ | ⟨rfl, rfl, rfl, rfl, rfl⟩ | ⟨rfl, rfl, rfl, rfl, rfl⟩ | ⟨rfl, rfl, rfl, rfl, rfl⟩ | ⟨rfl, rfl, rfl, rfl, rfl⟩ | ⟨rfl, rfl, rfl, rfl, rfl⟩ | ⟨rfl, rfl, rfl, rfl, rfl⟩ | ⟨rfl, rfl, rfl, rfl, rfl⟩ | ⟨rfl, rfl, rfl, rfl, rfl⟩ | ⟨rfl, rfl, rfl, rfl, rfl⟩ | ⟨rfl, rfl, rfl, rfl, rfl⟩ | ⟨rfl, rfl, rfl, rfl, rfl⟩ | ⟨rfl, rfl, rfl, rfl, rfl⟩ | ⟨rfl, rfl, rfl, rfl, rfl⟩ | ⟨rfl, rfl, rfl, rfl, rfl⟩ | ⟨rfl, rfl, rfl, rfl, rfl⟩ | ⟨rfl, rfl, rfl, rfl, rfl⟩ | ⟨rfl, rfl, rfl, rfl, rfl⟩ | ⟨rfl, rfl, rfl, rfl, rfl⟩ | ⟨rfl, rfl, rfl, rfl, rfl⟩ | ⟨rfl, rfl, rfl, rfl, rfl⟩ <;> first | exact at_zero101 A8 A9 c8 c9 emp w | exact at_zero104 A8 A9 c8 c9 emp w | exact at_zero106 A8 A9 c8 c9 emp w | exact at_zero108 A8 A9 c8 c9 emp w | exact at_zero110 A8 A9 c8 c9 emp w | exact at_zero112 A8 A9 c8 c9 emp w | exact at_zero114 A8 A9 c8 c9 emp w | exact at_zero127 A8 A9 c8 c9 emp w | exact at_zero129 A8 A9 c8 c9 emp w | exact at_zero131 A8 A9 c8 c9 emp w | exact at_zero133 A8 A9 c8 c9 emp w | exact at_zero135 A8 A9 c8 c9 emp w | exact at_zero137 A8 A9 c8 c9 emp w | exact at_zero139 A8 A9 c8 c9 emp w | exact at_zero141 A8 A9 c8 c9 emp w | exact at_zero143 A8 A9 c8 c9 emp w | exact at_zero198 A8 A9 c8 c9 emp w | exact at_zero200 A8 A9 c8 c9 emp w | exact at_zero202 A8 A9 c8 c9 emp w | exact at_zero204 A8 A9 c8 c9 emp w | exact at_zero206 A8 A9 c8 c9 emp w | exact at_zero208 A8 A9 c8 c9 emp w | exact at_zero210 A8 A9 c8 c9 emp w | exact at_zero212 A8 A9 c8 c9 emp w
  | time u t h =>
   simp only [timeTab, List.mem_cons, List.not_mem_nil, or_false, Prod.mk.injEq] at h
   rcases h with ⟨rfl, rfl⟩ | ⟨rfl, rfl⟩ | ⟨rfl, rfl⟩ | ⟨rfl, rfl⟩ <;> first | exact at_time0 A8 A9 c8 c9 emp w | exact at_time1 A8 A9 c8 c9 emp w | exact at_time2 A8 A9 c8 c9 emp w | exact at_time3 A8 A9 c8 c9 emp w
  | stamp u z h0 h1 h2 => exact at_stamp u A8 A9 c8 c9 z w
  | dur u h0 h1 => exact at_dur u A8 A9 c8 c9 emp w
  | dec wd t p c h h0 h1 h2 h3 =>
   simp only [decTab, List.mem_cons, List.not_mem_nil, or_false, Prod.mk.injEq] at h
   rcases h with ⟨rfl, rfl⟩ | ⟨rfl, rfl⟩ | ⟨rfl, rfl⟩ | ⟨rfl, rfl⟩ <;> first | exact at_dec32 p c h0 h1 h2 h3 A8 A9 c8 c9 emp w | exact at_dec64 p c h0 h1 h2 h3 A8 A9 c8 c9 emp w | exact at_dec128 p c h0 h1 h2 h3 A8 A9 c8 c9 emp w | exact at_dec256 p c h0 h1 h2 h3 A8 A9 c8 c9 emp w
  | fsb wd h0 h1 => exact at_fsb wd A8 A9 c8 c9 emp w
  | list k t T dT h hs =>
   have hF : All2 MakesF [⟨nmItem, true, T, []⟩] [DF.mk nmItem dT true] := .cons (makesF_of (ih T dT hs) nmItem true) .nil
   simp only [listTab, List.mem_cons, List.not_mem_nil, or_false, Prod.mk.injEq] at h
   rcases h with ⟨rfl, rfl⟩ | ⟨rfl, rfl⟩ | ⟨rfl, rfl⟩ | ⟨rfl, rfl⟩
   ·exact at_nest12 0 false 0 0 0 emp false A8 A9 0 c8 1 c9 _ w (fun W hb => nest_list154 T dT A8 A9 c8 c9 W (Kd.C_below g9 hb) hF)
   ·exact at_nest21 0 false 0 0 0 emp false A8 A9 0 c8 1 c9 _ w (fun W hb => nest_list233 T dT A8 A9 c8 c9 W (Kd.C_below g9 hb) hF)
   ·exact at_nest25 0 false 0 0 0 emp false A8 A9 0 c8 1 c9 _ w (fun W hb => nest_list180 T dT A8 A9 c8 c9 W (Kd.C_below g9 hb) hF)
   ·exact at_nest26 0 false 0 0 0 emp false A8 A9 0 c8 1 c9 _ w (fun W hb => nest_list236 T dT A8 A9 c8 c9 W (Kd.C_below g9 hb) hF)
  | flist wd T dT h0 h1 hs =>
   have hF : All2 MakesF [⟨nmItem, true, T, []⟩] [DF.mk nmItem dT true] := .cons (makesF_of (ih T dT hs) nmItem true) .nil
   exact at_nest16 wd false 0 0 0 emp false A8 A9 0 c8 1 c9 _ w (fun W hb => nest_flist T dT wd h0 h1 A8 A9 c8 c9 W (Kd.C_below g9 hb) hF)
  | struct fs ds hf hl =>
   have hF := makesFD ih hf
   cases hf with
   | nil => exact at_nest13 0 false 0 0 0 emp false A8 A9 0 c8 0 c9 _ w (fun W hb => nest_struct0 A8 A9 c8 c9 W (Kd.C_below g9 hb) hF)
   | @cons a b l m hab hlm => exact at_nest13 0 false 0 0 0 emp false A8 A9 0 c8 (a :: l).length c9 _ w (fun W hb => nest_struct (a :: l) (b :: m) (Nat.succ_pos _) hl (fd_names (.cons hab hlm)) A8 A9 c8 c9 W (Kd.C_below g9 hb) hF)
  | map K V dk dv fl he hk hv =>
   have hE := makesF_of (ih _ _ he) nmEntries false
   have hF : All2 MakesF [⟨nmEntries, false, _, []⟩] [DF.mk nmEntries (.struct [.mk nmKey dk false, .mk nmValue dv true]) false] := .cons hE .nil
   have hF2 : All2 MakesF [⟨nmKey, false, K, []⟩, ⟨nmValue, true, V, []⟩] [DF.mk nmKey dk false, DF.mk nmValue dv true] := .cons (makesF_of (ih K dk hk) nmKey false) (.cons (makesF_of (ih V dv hv) nmValue true) .nil)
   exact at_nest17 0 false 0 0 0 emp fl A8 A9 0 c8 1 c9 _ w (fun W hb => nest_map K V dk dv fl hF2 A8 A9 c8 c9 W (Kd.C_below g9 hb) hF)
  | entries K V dk dv hk hv =>
   have hF : All2 MakesF [⟨nmKey, false, K, []⟩, ⟨nmValue, true, V, []⟩] [DF.mk nmKey dk false, DF.mk nmValue dv true] := .cons (makesF_of (ih K dk hk) nmKey false) (.cons (makesF_of (ih V dv hv) nmValue true) .nil)
   exact at_nest13 0 false 0 0 0 emp false A8 A9 0 c8 2 c9 _ w (fun W hb => nest_struct [⟨nmKey, false, K, []⟩, ⟨nmValue, true, V, []⟩] [DF.mk nmKey dk false, DF.mk nmValue dv true] (Nat.succ_pos _) (show 2 ≤ 100 by decide) (fun d hd => by
    simp only [List.mem_cons, List.not_mem_nil, or_false] at hd
    rcases hd with rfl | rfl
    ·exact (show 3 ≤ maxLen by unfold maxLen; decide)
    ·exact (show 5 ≤ maxLen by unfold maxLen; decide)) A8 A9 c8 c9 W (Kd.C_below g9 hb) hF)
  | union u t fs ds ids h hf h0 hl hi hr hd =>
   have hF := makesFD ih hf
   have hlen := hf.length
   simp only [unionTab, List.mem_cons, List.not_mem_nil, or_false, Prod.mk.injEq] at h
   rcases h with ⟨rfl, rfl⟩ | ⟨rfl, rfl⟩
   ·exact at_nest14 0 false 0 0 0 emp false A8 A9 _ c8 _ c9 _ w (fun W hb => nest_union0 fs ds ids (by omega) hl (by omega) hr hd A8 A9 c8 c9 W (Kd.C_below g8 hb) (Kd.C_below g9 hb) hF)
   ·exact at_nest14 0 false 1 0 0 emp false A8 A9 _ c8 _ c9 _ w (fun W hb => nest_union1 fs ds ids (by omega) hl (by omega) hr hd A8 A9 c8 c9 W (Kd.C_below g8 hb) (Kd.C_below g9 hb) hF)
  | ree R V dr dv hr hv =>
   have hF : All2 MakesF [⟨nmRunEnds, false, R, []⟩, ⟨nmValues, true, V, []⟩] [DF.mk nmRunEnds dr false, DF.mk nmValues dv true] := .cons (makesF_of (ih R dr hr) nmRunEnds false) (.cons (makesF_of (ih V dv hv) nmValues true) .nil)
   exact at_nest22 0 false 0 0 0 emp false A8 A9 0 c8 2 c9 _ w (fun W hb => nest_ree R V dr dv A8 A9 c8 c9 W (Kd.C_below g9 hb) hF)
  | dict I V di dv fl hi hv =>
   have hF : All2 MakesF [⟨emp, false, I, []⟩, ⟨emp, false, V, []⟩] [DF.mk emp di false, DF.mk emp dv false] := .cons (makesF_of (ih I di hi) emp false) (.cons (makesF_of (ih V dv hv) emp false) .nil)
   exact at_nest27 0 false 0 0 0 emp fl A8 A9 0 c8 2 c9 _ w (fun W hb => nest_dict I V di dv fl A8 A9 c8 c9 W (Kd.C_below g9 hb) hF)
end Go.Proofs.YteebgnhhjlgnjaaGreatDoor.V
