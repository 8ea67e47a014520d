/-
  Shifts to the right of rows of words: rshVU. Conditions: 0 < s < 64, what is read is not written ahead of its reading.
-/
import Derived.Test.YtmgfajamanakcaaGreatDoorCp
import Derived.BigRegion
namespace Go.Proofs.YtmgfajamanakcaaGreatDoor
open Go.RowKit
set_option maxRecDepth 100000
set_option linter.unusedVariables false
theorem and63 (s : Nat) (h : s < 64) : bits BinOp.and IntKind.u64 (s : Int) 63 = s := by
  have h1 : (BitVec.ofInt 64 63).toNat = 2 ^ 6 - 1 := by decide
  have key : (BitVec.ofInt 64 (s : Int) &&& BitVec.ofInt 64 63).toNat = ((s : Int) % ((2 ^ 64 : Nat) : Int)).toNat % 2 ^ 6 := by
    rw [BitVec.toNat_and, BitVec.toNat_ofInt, h1, Nat.and_two_pow_sub_one_eq_mod]
  show IntKind.u64.wrap ((BitVec.ofInt 64 (s : Int) &&& BitVec.ofInt 64 63).toNat : Nat) = _
  rw [key, IntKind.wrap_u64]
  omega
theorem or_nat (a b s : Nat) (ha : a < 2 ^ (64 - s)) (hs : s < 64) (hb : b < 2 ^ s) : bits BinOp.or IntKind.u64 (a : Int) ((b * 2 ^ (64 - s) : Nat) : Int) = ((a + b * 2 ^ (64 - s) : Nat) : Int) := by
  have hp : 2 ^ s * 2 ^ (64 - s) = 2 ^ 64 := by rw [← Nat.pow_add]; congr 1; omega
  have hp1 : 0 < 2 ^ (64 - s) := Nat.pow_pos (by omega)
  have hlt : a + b * 2 ^ (64 - s) < 2 ^ 64 := by
    have : (b + 1) * 2 ^ (64 - s) ≤ 2 ^ s * 2 ^ (64 - s) := Nat.mul_le_mul_right _ hb
    rw [hp, Nat.add_mul] at this
    omega
  have h1 : (BitVec.ofInt 64 (a : Int)).toNat = a := by rw [BitVec.toNat_ofInt]; omega
  have h2 : (BitVec.ofInt 64 ((b * 2 ^ (64 - s) : Nat) : Int)).toNat = b * 2 ^ (64 - s) := by rw [BitVec.toNat_ofInt]; omega
  have key : (BitVec.ofInt 64 (a : Int) ||| BitVec.ofInt 64 ((b * 2 ^ (64 - s) : Nat) : Int)).toNat = a + b * 2 ^ (64 - s) := by
    rw [BitVec.toNat_or, h1, h2, Nat.or_comm, ← Nat.shiftLeft_eq, ← Nat.shiftLeft_add_eq_or_of_lt ha]
    omega
  show IntKind.u64.wrap ((BitVec.ofInt 64 (a : Int) ||| BitVec.ofInt 64 ((b * 2 ^ (64 - s) : Nat) : Int)).toNat : Nat) = _
  rw [key, IntKind.wrap_u64]
  omega
theorem wrap_shl (y : Nat) (s : Nat) (hs : s < 64) : IntKind.u64.wrap ((y : Int) * 2 ^ (64 - s)) = (((y % 2 ^ s) * 2 ^ (64 - s) : Nat) : Int) := by
  have hp : 2 ^ s * 2 ^ (64 - s) = 2 ^ 64 := by rw [← Nat.pow_add]; congr 1; omega
  rw [IntKind.wrap_u64, ← Nat.mul_mod_mul_right, hp]
  have : ((y : Int) * 2 ^ (64 - s)) = ((y * 2 ^ (64 - s) : Nat) : Int) := by push_cast; rfl
  rw [this]; omega
/-- The two halves of a shifted word. -/
theorem shr_or {x y : Int} {s : Nat} (hx : U64 x) (hy : U64 y) (hs : s < 64) : bits BinOp.or IntKind.u64 (x / 2 ^ s) (IntKind.u64.wrap (y * 2 ^ (64 - s))) = x / 2 ^ s + y % 2 ^ s * 2 ^ (64 - s) := by
  obtain ⟨a, rfl⟩ := Int.eq_ofNat_of_zero_le hx.1
  obtain ⟨b, rfl⟩ := Int.eq_ofNat_of_zero_le hy.1
  have hp : 2 ^ s * 2 ^ (64 - s) = 2 ^ 64 := by rw [← Nat.pow_add]; congr 1; omega
  have ha : a / 2 ^ s < 2 ^ (64 - s) := by
    rw [Nat.div_lt_iff_lt_mul (Nat.pow_pos (by omega)), Nat.mul_comm, hp]
    have := hx.2; omega
  rw [wrap_shl b s hs]
  have := or_nat (a / 2 ^ s) (b % 2 ^ s) s ha hs (Nat.mod_lt _ (Nat.pow_pos (by omega)))
  simp only [Int.natCast_ediv, Int.natCast_emod, Int.natCast_mul, Int.natCast_add, Int.natCast_pow] at this ⊢
  exact this
theorem U64_shr {x : Int} {s : Nat} (hx : U64 x) : U64 (x / 2 ^ s) := by
  have h : (0:Int) < 2 ^ s := Int.pow_pos (by omega)
  refine ⟨Int.ediv_nonneg hx.1 (by omega), Int.lt_of_le_of_lt (Int.ediv_le_self _ hx.1) hx.2⟩
theorem U64_or {x y : Int} {s : Nat} (hx : U64 x) (hy : U64 y) (hs : s < 64) : U64 (x / 2 ^ s + y % 2 ^ s * 2 ^ (64 - s)) := by
  rw [← shr_or hx hy hs]
  exact ⟨by simp only [bits]; rw [IntKind.wrap_u64]; omega, by simp only [bits]; rw [IntKind.wrap_u64]; omega⟩
/-- One word further. -/
theorem rsh_step {X Z : Nat → Int} {x y : Int} {k s : Nat} (hs : s < 64) (h : 2 ^ s * val Z k + X 0 % 2 ^ s = val X k + (X k % 2 ^ s) * BB ^ k) (hx : X k = x) (hy : X (k + 1) = y) (hz : Z k = x / 2 ^ s + y % 2 ^ s * 2 ^ (64 - s)) :
    2 ^ s * val Z (k + 1) + X 0 % 2 ^ s = val X (k + 1) + (X (k + 1) % 2 ^ s) * BB ^ (k + 1) := by
  have hp : (2:Int) ^ s * 2 ^ (64 - s) = BB := by rw [← Int.pow_add, show s + (64 - s) = 64 by omega]; rfl
  have hd := Int.mul_ediv_add_emod x (2 ^ s)
  simp only [val, hx, hy, hz, BB_succ] at h ⊢
  grind
theorem rsh_last {X Z : Nat → Int} {x : Int} {k s : Nat} (h : 2 ^ s * val Z k + X 0 % 2 ^ s = val X k + (X k % 2 ^ s) * BB ^ k) (hx : X k = x) (hz : Z k = x / 2 ^ s) :
    2 ^ s * val Z (k + 1) + X 0 % 2 ^ s = val X (k + 1) := by
  have hd := Int.mul_ediv_add_emod x (2 ^ s)
  simp only [val, hx, hz] at h ⊢
  grind
def RshPost (w : World) (bz oz n : Nat) (X : Nat → Int) (s : Nat) (_ : Int) (w' : World) : Prop :=
  ∃ Z, Chg (zRow bz oz n) w w' ∧ Words w' bz oz n Z ∧ WF Z n ∧ 2 ^ s * val Z n + X 0 % 2 ^ s = val X n
set_option maxHeartbeats 2000000 in
theorem rshVU_g_any (bx ox bz oz n cx cz : Nat) (X : Nat → Int) (s : Nat) (w : World) (hn : n < 4611686018427387904) (hn1 : 0 < n) (hX : Words w bx ox n X) (hXw : WF X n) (hz : Room w bz oz n) (hf : Fwd bx ox bz oz n) (hs0 : 0 < s) (hs : s < 64) :
    Calls Tryz.prog 233 #[.slice (some ⟨bz, oz, none⟩) n cz, .slice (some ⟨bx, ox, none⟩) n cx, .int .u64 s] w (OneWord (RshPost w bz oz n X s)) := by
  have hm1 := and63 s hs
  have hm2 := and63 (64 - s) (by omega)
  have hm3 : ((64 - s : Nat) : Int) = 64 - (s : Int) := by omega
  rw [hm3] at hm2
  have hsb : ((s : Int) == 0) = false := by simp; omega
  have hnb : ((n : Int) == 0) = false := by simp; omega
  have hx0 := hX 0 (by omega)
  simp only [Nat.add_zero] at hx0
  have HX := Lib.hid hX
  have HXw := Lib.hid hXw
  have Hz := Lib.hid hz
  have Hf := Lib.hid hf
  clear hX hXw hz hf
  clear hm3
  go_enter Tryz.func233, Tryz.ntmps233
  go_wp2_with fail
  go_loopw [8] (fun si wr => ∃ (k : Nat) (Z : Nat → Int), si = .int .i64 (k + 1) ∧ k + 1 ≤ n ∧ Hid (Chg (zRow bz oz k) w wr ∧ Words wr bz oz k Z ∧ WF Z k ∧ 2 ^ s * val Z k + X 0 % 2 ^ s = val X k + (X k % 2 ^ s) * BB ^ k)) (fun si _ => n - (intOf si).toNat)
  case atStart => exact ⟨0, fun _ => 0, rfl, by omega, Chg.refl _ _, fun i hi => by omega, fun i hi => by omega, by simp [val]⟩
  case round =>
    obtain ⟨k, Z, rfl, hk, H⟩ := hrel
    have hcx := fwd_keep Hf.out hk H.out.1 (HX.out k hk)
    obtain ⟨⟨zk, hzk0⟩, hzf0⟩ := Hz.out k hk
    have hzk1 := H.out.1.isCell (by rw [hzk0]; rfl)
    obtain ⟨zv, hzk⟩ := Option.isSome_iff_exists.1 hzk1
    have hzf := (H.out.1.frozen hzk0 (oz + k)).trans hzf0
    clear hzk0 hzf0 hzk1
    obtain ⟨xk, hxe⟩ : ∃ x, X k = x := ⟨_, rfl⟩
    rw [hxe] at hcx
    have Hxe := Lib.hid hxe
    have hxw : Hid (U64 xk) := by rw [← hxe]; exact HXw.out k hk
    clear hxe
    by_cases hlt : k + 1 < n
    · have hcy := fwd_keep Hf.out hlt (H.out.1.mono (fun _ _ _ hz => ⟨hz.1, hz.2.1, by have := hz.2.2; omega⟩)) (HX.out (k + 1) hlt)
      obtain ⟨yk, hye⟩ : ∃ x, X (k + 1) = x := ⟨_, rfl⟩
      rw [hye] at hcy
      have Hye := Lib.hid hye
      have hyw : Hid (U64 yk) := by rw [← hye]; exact HXw.out (k + 1) hlt
      clear hye
      go_wp2_with fail
      go_region
      go_wp2
      go_roundw
      case rel =>
        have hv := shr_or hxw.out hyw.out hs
        refine ⟨k + 1, upd Z k (xk / 2 ^ s + yk % 2 ^ s * 2 ^ (64 - s)), by go_num, by omega, ?_⟩
        rw [hv]
        refine ⟨(chg_snoc H.out.1 _).drew, H.out.2.1.snoc (by rw [hzk]; rfl), WF_upd H.out.2.2.1 (U64_or hxw.out hyw.out hs), ?_⟩
        exact rsh_step hs (by rw [val_upd]; exact H.out.2.2.2) Hxe.out Hye.out (upd_same _ _ _)
      case measure => simp [intOf]; omega
    · have hkn : n = k + 1 := by omega
      have hb1 : decide (((k:Int) + 1) < (n : Int)) = false := by simp; omega
      go_wp2_with fail
      go_ret
      refine ⟨_, rfl, upd Z k (xk / 2 ^ s), ?_⟩
      rw [hkn]
      refine ⟨chg_snoc H.out.1 _, H.out.2.1.snoc (by rw [hzk]; rfl), WF_upd H.out.2.2.1 (U64_shr hxw.out), ?_⟩
      exact rsh_last (x := xk) (by rw [val_upd]; exact H.out.2.2.2) Hxe.out (upd_same _ _ _)
theorem rshVU_any (bx ox bz oz n cx cz : Nat) (X : Nat → Int) (s : Nat) (w : World) (hn : n < 4611686018427387904) (hn1 : 0 < n) (hX : Words w bx ox n X) (hXw : WF X n) (hz : Room w bz oz n) (hf : Fwd bx ox bz oz n) (hs0 : 0 < s) (hs : s < 64) :
    Calls Tryz.prog 199 #[.slice (some ⟨bz, oz, none⟩) n cz, .slice (some ⟨bx, ox, none⟩) n cx, .int .u64 s] w (OneWord (RshPost w bz oz n X s)) := by
  have H := Lib.hid (rshVU_g_any bx ox bz oz n cx cz X s w hn hn1 hX hXw hz hf hs0 hs)
  clear hX hXw hz hf
  go_enter Tryz.func199, Tryz.ntmps199
  go_wp2_with fail
  refine H.out.mono ?_
  rintro e w1 ⟨c, rfl, hp⟩
  have Hp := Lib.hid hp
  clear hp
  go_wp2
  go_ret
  exact ⟨c, rfl, Hp.out⟩
theorem fwd_of_home {w : World} {az : Option Addr} {zc bx ox xn b o c q m : Nat} (hh : Home w az zc (some ⟨b, o, none⟩) c) (ha : Apart az zc (some ⟨bx, ox, none⟩) xn) (hb : bx < w.heap.size) (hq : q + m ≤ xn) (hm : m ≤ c) : Fwd bx (ox + q) b o m := by
  rcases hh with ⟨e1, e2⟩ | ⟨b', o', e1, e2⟩
  · rcases ha with e3 | e3
    · rw [← e1] at e3; injection e3 with e3; injection e3 with e3 e4; exact Or.inr (Or.inl (by omega))
    · by_cases hbb : bx = b
      · subst hbb
        refine Or.inr ?_
        by_cases hle : o ≤ ox + q
        · exact Or.inl hle
        · refine Or.inr ?_
          by_cases hgt : ox + q + m ≤ o
          · exact hgt
          · exact absurd ⟨o, e1.symm, by omega, by omega⟩ (e3 bx ox (o - ox) rfl (by omega))
      · exact Or.inl hbb
  · injection e1 with e1; injection e1 with e1; exact Or.inl (by omega)
theorem two64 : (2:Int) ^ 64 = BB := rfl
theorem two_split (s : Nat) : (2:Int) ^ s = BB ^ (s / 64) * 2 ^ (s % 64) := by
  rw [← two64, ← Int.pow_mul, ← Int.pow_add]
  congr 1; omega
theorem val_shr {X : Nat → Int} {n s : Nat} (hX : WF X n) (h : s / 64 ≤ n) : val X n / 2 ^ s = val (fun i => X (s / 64 + i)) (n - s / 64) / 2 ^ (s % 64) := by
  have e := val_add X (s / 64) (n - s / 64)
  rw [show s / 64 + (n - s / 64) = n by omega] at e
  have h0 := val_nonneg (hX.le h)
  have h1 := val_lt (hX.le h)
  rw [two_split, ← Int.ediv_ediv_of_nonneg (Int.le_of_lt (BBn_pos _)), e, Int.add_mul_ediv_left _ _ (by have := BBn_pos (s / 64); omega), Int.ediv_eq_zero_of_lt h0 h1, Int.zero_add]
theorem val_shr_zero {X : Nat → Int} {n s : Nat} (hX : WF X n) (h : n ≤ s / 64) : val X n / 2 ^ s = 0 := by
  have h0 := val_nonneg hX
  have h1 := val_lt hX
  refine Int.ediv_eq_zero_of_lt h0 (Int.lt_of_lt_of_le h1 ?_)
  rw [two_split, show s / 64 = n + (s / 64 - n) by omega, Int.pow_add, Int.mul_assoc]
  have a := BBn_pos n
  have b : (0:Int) < BB ^ (s / 64 - n) * 2 ^ (s % 64) := Int.mul_pos (BBn_pos _) (Int.pow_pos (by omega))
  have := Int.mul_le_mul_of_nonneg_left (c := BB ^ n) (show (1:Int) ≤ BB ^ (s / 64 - n) * 2 ^ (s % 64) by omega) (by omega)
  omega
theorem shr_of_post {v z x0 : Int} {s : Nat} (h : 2 ^ s * z + x0 % 2 ^ s = v) : z = v / 2 ^ s := by
  have hp : (0:Int) < 2 ^ s := Int.pow_pos (by omega)
  have h1 := Int.emod_nonneg x0 (show (2:Int) ^ s ≠ 0 by omega)
  have h2 := Int.emod_lt_of_pos x0 hp
  rw [← h, Int.add_comm, Int.add_mul_ediv_left _ _ (by omega), Int.ediv_eq_zero_of_lt h1 h2]
  omega
end Go.Proofs.YtmgfajamanakcaaGreatDoor
