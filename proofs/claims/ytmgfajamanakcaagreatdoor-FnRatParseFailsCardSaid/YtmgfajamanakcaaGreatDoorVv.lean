/-
  Vectors of words: addVV, subVV, addMulVVWW. Conditions: the rows are there, the places read are not written ahead of their reading.
-/
import Derived.Test.YtmgfajamanakcaaGreatDoorCp
import Derived.Deep.QuietTactic
namespace Go.Proofs.YtmgfajamanakcaaGreatDoor
open Go.RowKit
set_option maxRecDepth 100000
set_option linter.unusedVariables false
def addLo (x y c : Int) : Int := (x + y + c) % 18446744073709551616
def addHi (x y c : Int) : Int := (x + y + c) / 18446744073709551616
theorem add_spec {x y c : Int} (hx : U64 x) (hy : U64 y) (hc : 0 ≤ c ∧ c ≤ 1) : U64 (addLo x y c) ∧ (0 ≤ addHi x y c ∧ addHi x y c ≤ 1) ∧ addLo x y c + addHi x y c * BB = x + y + c := by
  obtain ⟨hx0, hx1⟩ := hx
  obtain ⟨hy0, hy1⟩ := hy
  unfold addLo addHi U64 BB
  omega
theorem Add_det (x y c : Int) (w : World) (hx : U64 x) (hy : U64 y) (hc : 0 ≤ c ∧ c ≤ 1) :
    Calls Tryz.prog 223 #[.int .u64 x, .int .u64 y, .int .u64 c] w (fun e w' => e = .returned (.tuple #[.int .u64 (addLo x y c), .int .u64 (addHi x y c)]) ∧ w' = w) := by
  have hs := add_spec hx hy hc
  refine (Add_any x y c w hx hy hc).mono ?_
  rintro e w' ⟨s, c', rfl, ⟨h1, h2, h3⟩, rfl⟩
  obtain ⟨k1, k2, k3⟩ := hs
  have e1 : s = addLo x y c := by unfold U64 BB at *; omega
  have e2 : c' = addHi x y c := by unfold U64 BB at *; omega
  rw [e1, e2]; exact ⟨rfl, rfl⟩
def subLo (x y c : Int) : Int := (x - y - c) % 18446744073709551616
def subHi (x y c : Int) : Int := if x < y + c then 1 else 0
theorem sub_spec {x y c : Int} (hx : U64 x) (hy : U64 y) (hc : 0 ≤ c ∧ c ≤ 1) : U64 (subLo x y c) ∧ (0 ≤ subHi x y c ∧ subHi x y c ≤ 1) ∧ subLo x y c - subHi x y c * BB = x - y - c := by
  obtain ⟨hx0, hx1⟩ := hx
  obtain ⟨hy0, hy1⟩ := hy
  unfold subLo subHi U64 BB
  split <;> omega
theorem Sub_det (x y c : Int) (w : World) (hx : U64 x) (hy : U64 y) (hc : 0 ≤ c ∧ c ≤ 1) :
    Calls Tryz.prog 225 #[.int .u64 x, .int .u64 y, .int .u64 c] w (fun e w' => e = .returned (.tuple #[.int .u64 (subLo x y c), .int .u64 (subHi x y c)]) ∧ w' = w) := by
  have hs := sub_spec hx hy hc
  refine (Sub_any x y c w hx hy hc).mono ?_
  rintro e w' ⟨s, c', rfl, ⟨h1, h2, h3⟩, rfl⟩
  obtain ⟨k1, k2, k3⟩ := hs
  have e1 : s = subLo x y c := by unfold U64 BB at *; omega
  have e2 : c' = subHi x y c := by unfold U64 BB at *; omega
  rw [e1, e2]; exact ⟨rfl, rfl⟩
def AddPost (w : World) (bz oz n : Nat) (X Y : Nat → Int) (c : Int) (w' : World) : Prop :=
  ∃ Z, Chg (zRow bz oz n) w w' ∧ Words w' bz oz n Z ∧ WF Z n ∧ (0 ≤ c ∧ c ≤ 1) ∧ val Z n + c * BB ^ n = val X n + val Y n
theorem add_step {X Y Z : Nat → Int} {c c' xk yk s : Int} {k : Nat} (h : val Z k + c * BB ^ k = val X k + val Y k) (hx : X k = xk) (hy : Y k = yk) (hz : Z k = s) (hp : s + c' * BB = xk + yk + c) :
    val Z (k + 1) + c' * BB ^ (k + 1) = val X (k + 1) + val Y (k + 1) := by
  simp only [val, hx, hy, hz, BB_succ]; grind
theorem sub_step {X Y Z : Nat → Int} {c c' xk yk s : Int} {k : Nat} (h : val Z k - c * BB ^ k = val X k - val Y k) (hx : X k = xk) (hy : Y k = yk) (hz : Z k = s) (hp : s - c' * BB = xk - yk - c) :
    val Z (k + 1) - c' * BB ^ (k + 1) = val X (k + 1) - val Y (k + 1) := by
  simp only [val, hx, hy, hz, BB_succ]; grind
set_option maxHeartbeats 4000000 in
theorem addVV_g_any (bx ox bY oY bz oz n cx cy cz : Nat) (X Y : Nat → Int) (w : World) (hn : n < 4611686018427387904) (hX : Words w bx ox n X) (hXw : WF X n) (hY : Words w bY oY n Y) (hYw : WF Y n) (hz : Room w bz oz n) (hf : Fwd bx ox bz oz n) (hg : Fwd bY oY bz oz n) :
    Calls Tryz.prog 222 #[.slice (some ⟨bz, oz, none⟩) n cz, .slice (some ⟨bx, ox, none⟩) n cx, .slice (some ⟨bY, oY, none⟩) n cy] w (OneWord (AddPost w bz oz n X Y)) := by
  have HX := Lib.hid (And.intro hX (And.intro hXw hf))
  have HY := Lib.hid (And.intro hY (And.intro hYw hg))
  have Hz := Lib.hid hz
  clear hX hXw hY hYw hz hf hg
  have hnb : ((n : Int) != (n : Int)) = false := by simp
  go_enter Tryz.func222, Tryz.ntmps222
  go_wp2_with fail
  go_loopw [6, 25] (fun sc si wr => ∃ (k : Nat) (c : Int) (Z : Nat → Int), si = .int .i64 k ∧ sc = .int .u64 c ∧ k ≤ n ∧ Hid (Chg (zRow bz oz k) w wr ∧ Words wr bz oz k Z ∧ WF Z k ∧ (0 ≤ c ∧ c ≤ 1) ∧ val Z k + c * BB ^ k = val X k + val Y k)) (fun sc si _ => n - (intOf si).toNat)
  case atStart => exact ⟨0, 0, fun _ => 0, rfl, rfl, Nat.zero_le _, Chg.refl _ _, fun i hi => by omega, fun i hi => by omega, by omega, by simp [val]⟩
  case round =>
    obtain ⟨k, c, Z, rfl, rfl, hk, H⟩ := hrel
    by_cases hlt : k < n
    · have hxk := fwd_keep HX.out.2.2 hlt H.out.1 (HX.out.1 k hlt)
      have hyk := fwd_keep HY.out.2.2 hlt H.out.1 (HY.out.1 k hlt)
      obtain ⟨⟨zk, hzk0⟩, hzf0⟩ := Hz.out k hlt
      have hzk1 := H.out.1.isCell (by rw [hzk0]; rfl)
      obtain ⟨zv, hzk⟩ := Option.isSome_iff_exists.1 hzk1
      have hzf := (H.out.1.frozen hzk0 (oz + k)).trans hzf0
      clear hzk0 hzf0 hzk1
      obtain ⟨xk, hxe⟩ : ∃ x, X k = x := ⟨_, rfl⟩
      obtain ⟨yk, hye⟩ : ∃ x, Y k = x := ⟨_, rfl⟩
      rw [hxe] at hxk
      rw [hye] at hyk
      have Hxe := Lib.hid hxe
      have Hye := Lib.hid hye
      have hxw : Hid (U64 xk) := by rw [← hxe]; exact HX.out.2.1 k hlt
      have hyw : Hid (U64 yk) := by rw [← hye]; exact HY.out.2.1 k hlt
      clear hxe hye
      go_wp2_with fail
      go_quiet ((go_at_call 223; exact Calls.quiet_of_same (Add_det xk yk c _ hxw.out hyw.out H.out.2.2.2.1)))
      go_wp2
      go_roundw
      case rel =>
        have hs := add_spec hxw.out hyw.out H.out.2.2.2.1
        refine ⟨k + 1, _, upd Z k (addLo xk yk c), by go_num, rfl, hlt, ?_, ?_, WF_upd H.out.2.2.1 hs.1, hs.2.1, ?_⟩
        · exact (chg_snoc H.out.1 _).drewN _
        · exact H.out.2.1.snoc (by rw [hzk]; rfl)
        · exact add_step (by rw [val_upd]; exact H.out.2.2.2.2) Hxe.out Hye.out (upd_same _ _ _) hs.2.2
      case measure => simp [intOf]; omega
    · have hkn : Hid (k = n) := by unfold Hid; omega
      go_wp2
      go_ret
      have e := hkn.out
      subst e
      exact ⟨c, rfl, Z, H.out⟩
def SubPost (w : World) (bz oz n : Nat) (X Y : Nat → Int) (c : Int) (w' : World) : Prop :=
  ∃ Z, Chg (zRow bz oz n) w w' ∧ Words w' bz oz n Z ∧ WF Z n ∧ (0 ≤ c ∧ c ≤ 1) ∧ val Z n - c * BB ^ n = val X n - val Y n
set_option maxHeartbeats 4000000 in
theorem subVV_g_any (bx ox bY oY bz oz n cx cy cz : Nat) (X Y : Nat → Int) (w : World) (hn : n < 4611686018427387904) (hX : Words w bx ox n X) (hXw : WF X n) (hY : Words w bY oY n Y) (hYw : WF Y n) (hz : Room w bz oz n) (hf : Fwd bx ox bz oz n) (hg : Fwd bY oY bz oz n) :
    Calls Tryz.prog 224 #[.slice (some ⟨bz, oz, none⟩) n cz, .slice (some ⟨bx, ox, none⟩) n cx, .slice (some ⟨bY, oY, none⟩) n cy] w (OneWord (SubPost w bz oz n X Y)) := by
  have HX := Lib.hid (And.intro hX (And.intro hXw hf))
  have HY := Lib.hid (And.intro hY (And.intro hYw hg))
  have Hz := Lib.hid hz
  clear hX hXw hY hYw hz hf hg
  have hnb : ((n : Int) != (n : Int)) = false := by simp
  go_enter Tryz.func224, Tryz.ntmps224
  go_wp2_with fail
  go_loopw [6, 25] (fun sc si wr => ∃ (k : Nat) (c : Int) (Z : Nat → Int), si = .int .i64 k ∧ sc = .int .u64 c ∧ k ≤ n ∧ Hid (Chg (zRow bz oz k) w wr ∧ Words wr bz oz k Z ∧ WF Z k ∧ (0 ≤ c ∧ c ≤ 1) ∧ val Z k - c * BB ^ k = val X k - val Y k)) (fun sc si _ => n - (intOf si).toNat)
  case atStart => exact ⟨0, 0, fun _ => 0, rfl, rfl, Nat.zero_le _, Chg.refl _ _, fun i hi => by omega, fun i hi => by omega, by omega, by simp [val]⟩
  case round =>
    obtain ⟨k, c, Z, rfl, rfl, hk, H⟩ := hrel
    by_cases hlt : k < n
    · have hxk := fwd_keep HX.out.2.2 hlt H.out.1 (HX.out.1 k hlt)
      have hyk := fwd_keep HY.out.2.2 hlt H.out.1 (HY.out.1 k hlt)
      obtain ⟨⟨zk, hzk0⟩, hzf0⟩ := Hz.out k hlt
      have hzk1 := H.out.1.isCell (by rw [hzk0]; rfl)
      obtain ⟨zv, hzk⟩ := Option.isSome_iff_exists.1 hzk1
      have hzf := (H.out.1.frozen hzk0 (oz + k)).trans hzf0
      clear hzk0 hzf0 hzk1
      obtain ⟨xk, hxe⟩ : ∃ x, X k = x := ⟨_, rfl⟩
      obtain ⟨yk, hye⟩ : ∃ x, Y k = x := ⟨_, rfl⟩
      rw [hxe] at hxk
      rw [hye] at hyk
      have Hxe := Lib.hid hxe
      have Hye := Lib.hid hye
      have hxw : Hid (U64 xk) := by rw [← hxe]; exact HX.out.2.1 k hlt
      have hyw : Hid (U64 yk) := by rw [← hye]; exact HY.out.2.1 k hlt
      clear hxe hye
      go_wp2_with fail
      go_quiet ((go_at_call 225; exact Calls.quiet_of_same (Sub_det xk yk c _ hxw.out hyw.out H.out.2.2.2.1)))
      go_wp2
      go_roundw
      case rel =>
        have hs := sub_spec hxw.out hyw.out H.out.2.2.2.1
        refine ⟨k + 1, _, upd Z k (subLo xk yk c), by go_num, rfl, hlt, ?_, ?_, WF_upd H.out.2.2.1 hs.1, hs.2.1, ?_⟩
        · exact (chg_snoc H.out.1 _).drewN _
        · exact H.out.2.1.snoc (by rw [hzk]; rfl)
        · exact sub_step (by rw [val_upd]; exact H.out.2.2.2.2) Hxe.out Hye.out (upd_same _ _ _) hs.2.2
      case measure => simp [intOf]; omega
    · have hkn : Hid (k = n) := by unfold Hid; omega
      go_wp2
      go_ret
      have e := hkn.out
      subst e
      exact ⟨c, rfl, Z, H.out⟩

def AddMulPost (w : World) (bz oz n : Nat) (X Y : Nat → Int) (m a c : Int) (w' : World) : Prop :=
  ∃ Z, Chg (zRow bz oz n) w w' ∧ Words w' bz oz n Z ∧ WF Z n ∧ U64 c ∧ val Z n + c * BB ^ n = val X n + val Y n * m + a
theorem mulAdd_det (x y c : Int) (w : World) (hx : U64 x) (hy : U64 y) (hc : U64 c) : ∃ hi lo, (U64 hi ∧ U64 lo ∧ hi * BB + lo = x * y + c) ∧
    ∀ w, Calls Tryz.prog 268 #[.int .u64 x, .int .u64 y, .int .u64 c] w (fun e w' => e = .returned (.tuple #[.int .u64 hi, .int .u64 lo]) ∧ w' = w) := by
  have h0 := mul_le_sq x y hx hy
  refine ⟨(x * y + c) / 18446744073709551616, (x * y + c) % 18446744073709551616, ?_, fun w => ?_⟩
  · obtain ⟨c1, c2⟩ := hc
    unfold U64 BB
    generalize x * y = p at *
    omega
  · refine (mulAddWWW_any x y c w hx hy hc).mono ?_
    rintro e w' ⟨hi, lo, rfl, ⟨⟨h1, h2⟩, ⟨h3, h4⟩, h5⟩, rfl⟩
    have e1 : hi = (x * y + c) / 18446744073709551616 := by unfold BB at h5; generalize x * y = p at *; omega
    have e2 : lo = (x * y + c) % 18446744073709551616 := by unfold BB at h5; generalize x * y = p at *; omega
    rw [← e1, ← e2]; exact ⟨rfl, rfl⟩
theorem addMul_word {x y m c hi lo : Int} (hx : U64 x) (hy : U64 y) (hm : U64 m) (hc : U64 c) (hp : U64 hi ∧ U64 lo ∧ hi * BB + lo = y * m + x) :
    IntKind.u64.wrap (addHi lo c 0 + hi) = addHi lo c 0 + hi ∧ U64 (addHi lo c 0 + hi) ∧ U64 (addLo lo c 0) ∧ addLo lo c 0 + (addHi lo c 0 + hi) * BB = x + y * m + c := by
  have h0 := mul_le_sq y m hy hm
  obtain ⟨⟨h1, h2⟩, h3, h5⟩ := hp
  have hs := add_spec h3 hc (show (0:Int) ≤ 0 ∧ (0:Int) ≤ 1 by omega)
  obtain ⟨⟨x1, x2⟩, ⟨c1, c2⟩⟩ := And.intro hx hc
  obtain ⟨⟨s1, s2⟩, ⟨s3, s4⟩, s5⟩ := hs
  rw [wrap_u64]
  unfold U64 BB at *
  generalize y * m = p at *
  omega
theorem addMul_step {X Y Z : Nat → Int} {c c' xk yk s m a : Int} {k : Nat} (h : val Z k + c * BB ^ k = val X k + val Y k * m + a) (hx : X k = xk) (hy : Y k = yk) (hz : Z k = s) (hp : s + c' * BB = xk + yk * m + c) :
    val Z (k + 1) + c' * BB ^ (k + 1) = val X (k + 1) + val Y (k + 1) * m + a := by
  simp only [val, hx, hy, hz, BB_succ]; grind
set_option maxHeartbeats 4000000 in
theorem addMulVVWW_g_any (bx ox bY oY bz oz n cx cy cz : Nat) (X Y : Nat → Int) (m a : Int) (w : World) (hn : n < 4611686018427387904) (hX : Words w bx ox n X) (hXw : WF X n) (hY : Words w bY oY n Y) (hYw : WF Y n) (hz : Room w bz oz n) (hf : Fwd bx ox bz oz n) (hg : Fwd bY oY bz oz n) (hm : U64 m) (ha : U64 a) :
    Calls Tryz.prog 247 #[.slice (some ⟨bz, oz, none⟩) n cz, .slice (some ⟨bx, ox, none⟩) n cx, .slice (some ⟨bY, oY, none⟩) n cy, .int .u64 m, .int .u64 a] w (OneWord (AddMulPost w bz oz n X Y m a)) := by
  have HX := Lib.hid (And.intro hX (And.intro hXw hf))
  have HY := Lib.hid (And.intro hY (And.intro hYw hg))
  have Hz := Lib.hid hz
  have HM := Lib.hid (And.intro hm ha)
  clear hX hXw hY hYw hz hf hg hm ha
  have hnb : ((n : Int) != (n : Int)) = false := by simp
  go_enter Tryz.func247, Tryz.ntmps247
  go_wp2_with fail
  go_loopw [10, 32] (fun sc si wr => ∃ (k : Nat) (c : Int) (Z : Nat → Int), si = .int .i64 k ∧ sc = .int .u64 c ∧ k ≤ n ∧ Hid (Chg (zRow bz oz k) w wr ∧ Words wr bz oz k Z ∧ WF Z k ∧ U64 c ∧ val Z k + c * BB ^ k = val X k + val Y k * m + a)) (fun sc si _ => n - (intOf si).toNat)
  case atStart => exact ⟨0, a, fun _ => 0, rfl, rfl, Nat.zero_le _, Chg.refl _ _, fun i hi => by omega, fun i hi => by omega, HM.out.2, by simp [val]⟩
  case round =>
    obtain ⟨k, c, Z, rfl, rfl, hk, H⟩ := hrel
    by_cases hlt : k < n
    · have hxk := fwd_keep HX.out.2.2 hlt H.out.1 (HX.out.1 k hlt)
      have hyk := fwd_keep HY.out.2.2 hlt H.out.1 (HY.out.1 k hlt)
      obtain ⟨⟨zk, hzk0⟩, hzf0⟩ := Hz.out k hlt
      have hzk1 := H.out.1.isCell (by rw [hzk0]; rfl)
      obtain ⟨zv, hzk⟩ := Option.isSome_iff_exists.1 hzk1
      have hzf := (H.out.1.frozen hzk0 (oz + k)).trans hzf0
      clear hzk0 hzf0 hzk1
      obtain ⟨xk, hxe⟩ : ∃ x, X k = x := ⟨_, rfl⟩
      obtain ⟨yk, hye⟩ : ∃ x, Y k = x := ⟨_, rfl⟩
      rw [hxe] at hxk
      rw [hye] at hyk
      have Hxe := Lib.hid hxe
      have Hye := Lib.hid hye
      have hxw : Hid (U64 xk) := by rw [← hxe]; exact HX.out.2.1 k hlt
      have hyw : Hid (U64 yk) := by rw [← hye]; exact HY.out.2.1 k hlt
      clear hxe hye
      go_wp2_with fail
      obtain ⟨hi, lo, hp, hcall⟩ := mulAdd_det yk m xk wr hyw.out HM.out.1 hxw.out
      have Hcall := Lib.hid hcall
      have Hp := Lib.hid hp
      clear hp hcall
      go_quiet ((go_at_call 268; exact Calls.quiet_of_same (Hcall.out _)))
      go_wp2_with fail
      refine (Add_det lo c 0 _ Hp.out.2.1 H.out.2.2.2.1 (by omega)).mono ?_
      rintro e w' ⟨rfl, rfl⟩
      go_wp2
      go_roundw
      case rel =>
        have hs := addMul_word hxw.out hyw.out HM.out.1 H.out.2.2.2.1 Hp.out
        refine ⟨k + 1, _, upd Z k (addLo lo c 0), by go_num, rfl, hlt, ?_, ?_, WF_upd H.out.2.2.1 hs.2.2.1, by rw [hs.1]; exact hs.2.1, ?_⟩
        · exact (chg_snoc H.out.1 _).drewN _
        · exact H.out.2.1.snoc (by rw [hzk]; rfl)
        · rw [hs.1]; exact addMul_step (by rw [val_upd]; exact H.out.2.2.2.2) Hxe.out Hye.out (upd_same _ _ _) hs.2.2.2
      case measure => simp [intOf]; omega
    · have hkn : Hid (k = n) := by unfold Hid; omega
      go_wp2
      go_ret
      have e := hkn.out
      subst e
      exact ⟨c, rfl, Z, H.out⟩

theorem addVV_any (bx ox bY oY bz oz n cx cy cz : Nat) (X Y : Nat → Int) (w : World) (hn : n < 4611686018427387904) (hX : Words w bx ox n X) (hXw : WF X n) (hY : Words w bY oY n Y) (hYw : WF Y n) (hz : Room w bz oz n) (hf : Fwd bx ox bz oz n) (hg : Fwd bY oY bz oz n) :
    Calls Tryz.prog 171 #[.slice (some ⟨bz, oz, none⟩) n cz, .slice (some ⟨bx, ox, none⟩) n cx, .slice (some ⟨bY, oY, none⟩) n cy] w (OneWord (AddPost w bz oz n X Y)) := by
  have H := Lib.hid (addVV_g_any bx ox bY oY bz oz n cx cy cz X Y w hn hX hXw hY hYw hz hf hg)
  clear hX hXw hY hYw hz hf hg
  go_enter Tryz.func171, Tryz.ntmps171
  go_wp2_with fail
  refine H.out.mono ?_
  rintro e w1 ⟨c, rfl, hp⟩
  have Hp := Lib.hid hp
  clear hp
  go_wp2
  go_ret
  exact ⟨c, rfl, Hp.out⟩

theorem subVV_any (bx ox bY oY bz oz n cx cy cz : Nat) (X Y : Nat → Int) (w : World) (hn : n < 4611686018427387904) (hX : Words w bx ox n X) (hXw : WF X n) (hY : Words w bY oY n Y) (hYw : WF Y n) (hz : Room w bz oz n) (hf : Fwd bx ox bz oz n) (hg : Fwd bY oY bz oz n) :
    Calls Tryz.prog 173 #[.slice (some ⟨bz, oz, none⟩) n cz, .slice (some ⟨bx, ox, none⟩) n cx, .slice (some ⟨bY, oY, none⟩) n cy] w (OneWord (SubPost w bz oz n X Y)) := by
  have H := Lib.hid (subVV_g_any bx ox bY oY bz oz n cx cy cz X Y w hn hX hXw hY hYw hz hf hg)
  clear hX hXw hY hYw hz hf hg
  go_enter Tryz.func173, Tryz.ntmps173
  go_wp2_with fail
  refine H.out.mono ?_
  rintro e w1 ⟨c, rfl, hp⟩
  have Hp := Lib.hid hp
  clear hp
  go_wp2
  go_ret
  exact ⟨c, rfl, Hp.out⟩

theorem addMulVVWW_any (bx ox bY oY bz oz n cx cy cz : Nat) (X Y : Nat → Int) (m a : Int) (w : World) (hn : n < 4611686018427387904) (hX : Words w bx ox n X) (hXw : WF X n) (hY : Words w bY oY n Y) (hYw : WF Y n) (hz : Room w bz oz n) (hf : Fwd bx ox bz oz n) (hg : Fwd bY oY bz oz n) (hm : U64 m) (ha : U64 a) :
    Calls Tryz.prog 216 #[.slice (some ⟨bz, oz, none⟩) n cz, .slice (some ⟨bx, ox, none⟩) n cx, .slice (some ⟨bY, oY, none⟩) n cy, .int .u64 m, .int .u64 a] w (OneWord (AddMulPost w bz oz n X Y m a)) := by
  have H := Lib.hid (addMulVVWW_g_any bx ox bY oY bz oz n cx cy cz X Y m a w hn hX hXw hY hYw hz hf hg hm ha)
  clear hX hXw hY hYw hz hf hg hm ha
  go_enter Tryz.func216, Tryz.ntmps216
  go_wp2_with fail
  refine H.out.mono ?_
  rintro e w1 ⟨c, rfl, hp⟩
  have Hp := Lib.hid hp
  clear hp
  go_wp2
  go_ret
  exact ⟨c, rfl, Hp.out⟩
end Go.Proofs.YtmgfajamanakcaaGreatDoor
