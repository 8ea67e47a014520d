/-
  Shifts to the right of rows of words: rshVU. Conditions: 0 < s < 64, what is read is not written ahead of its reading.
  The shift to the right of a number: nat.rsh. Conditions: 0 < s < 2^32, x at z's own place or apart from z.
  slices.Reverse on words, in place. Condition: the words may be written.
  nat.scan: what its walk is made of: the errors, the byte ahead, the prefix. Conditions: none; no walk in sight but the reading of one byte.
  What a scan has read: bytes that a number has, and no stroke. Plain Lean; no walk in sight.
-/
import Derived.Test.YtmgfajamanakcaaGreatDoorQ03
import Derived.BigRegion
import Derived.Deep.DeepCutAuto
import Derived.Deep.CutBlock
namespace Go.Proofs.YtmgfajamanakcaaGreatDoor
open Go.RowKit
set_option maxRecDepth 100000
set_option linter.unusedVariables false
theorem and63 (s : Nat) (h : s < 64) : bits BinOp.and IntKind.u64 (s : Int) 63 = s := by
  have h1 : (BitVec.ofInt 64 63).toNat = 2 ^ 6 - 1 := by decide
  have key : (BitVec.ofInt 64 (s : Int) &&& BitVec.ofInt 64 63).toNat = ((s : Int) % ((2 ^ 64 : Nat) : Int)).toNat % 2 ^ 6 := by
    rw [BitVec.toNat_and, BitVec.toNat_ofInt, h1, Nat.and_two_pow_sub_one_eq_mod]
  show IntKind.u64.wrap ((BitVec.ofInt 64 (s : Int) &&& BitVec.ofInt 64 63).toNat : Nat) = _
  rw [key, IntKind.wrap_u64]
  omega
theorem or_nat (a b s : Nat) (ha : a < 2 ^ (64 - s)) (hs : s < 64) (hb : b < 2 ^ s) : bits BinOp.or IntKind.u64 (a : Int) ((b * 2 ^ (64 - s) : Nat) : Int) = ((a + b * 2 ^ (64 - s) : Nat) : Int) := by
  have hp : 2 ^ s * 2 ^ (64 - s) = 2 ^ 64 := by rw [← Nat.pow_add]; congr 1; omega
  have hp1 : 0 < 2 ^ (64 - s) := Nat.pow_pos (by omega)
  have hlt : a + b * 2 ^ (64 - s) < 2 ^ 64 := by
    have : (b + 1) * 2 ^ (64 - s) ≤ 2 ^ s * 2 ^ (64 - s) := Nat.mul_le_mul_right _ hb
    rw [hp, Nat.add_mul] at this
    omega
  have h1 : (BitVec.ofInt 64 (a : Int)).toNat = a := by rw [BitVec.toNat_ofInt]; omega
  have h2 : (BitVec.ofInt 64 ((b * 2 ^ (64 - s) : Nat) : Int)).toNat = b * 2 ^ (64 - s) := by rw [BitVec.toNat_ofInt]; omega
  have key : (BitVec.ofInt 64 (a : Int) ||| BitVec.ofInt 64 ((b * 2 ^ (64 - s) : Nat) : Int)).toNat = a + b * 2 ^ (64 - s) := by
    rw [BitVec.toNat_or, h1, h2, Nat.or_comm, ← Nat.shiftLeft_eq, ← Nat.shiftLeft_add_eq_or_of_lt ha]
    omega
  show IntKind.u64.wrap ((BitVec.ofInt 64 (a : Int) ||| BitVec.ofInt 64 ((b * 2 ^ (64 - s) : Nat) : Int)).toNat : Nat) = _
  rw [key, IntKind.wrap_u64]
  omega
theorem wrap_shl (y : Nat) (s : Nat) (hs : s < 64) : IntKind.u64.wrap ((y : Int) * 2 ^ (64 - s)) = (((y % 2 ^ s) * 2 ^ (64 - s) : Nat) : Int) := by
  have hp : 2 ^ s * 2 ^ (64 - s) = 2 ^ 64 := by rw [← Nat.pow_add]; congr 1; omega
  rw [IntKind.wrap_u64, ← Nat.mul_mod_mul_right, hp]
  have : ((y : Int) * 2 ^ (64 - s)) = ((y * 2 ^ (64 - s) : Nat) : Int) := by push_cast; rfl
  rw [this]; omega
/-- The two halves of a shifted word. -/
theorem shr_or {x y : Int} {s : Nat} (hx : U64 x) (hy : U64 y) (hs : s < 64) : bits BinOp.or IntKind.u64 (x / 2 ^ s) (IntKind.u64.wrap (y * 2 ^ (64 - s))) = x / 2 ^ s + y % 2 ^ s * 2 ^ (64 - s) := by
  obtain ⟨a, rfl⟩ := Int.eq_ofNat_of_zero_le hx.1
  obtain ⟨b, rfl⟩ := Int.eq_ofNat_of_zero_le hy.1
  have hp : 2 ^ s * 2 ^ (64 - s) = 2 ^ 64 := by rw [← Nat.pow_add]; congr 1; omega
  have ha : a / 2 ^ s < 2 ^ (64 - s) := by
    rw [Nat.div_lt_iff_lt_mul (Nat.pow_pos (by omega)), Nat.mul_comm, hp]
    have := hx.2; omega
  rw [wrap_shl b s hs]
  have := or_nat (a / 2 ^ s) (b % 2 ^ s) s ha hs (Nat.mod_lt _ (Nat.pow_pos (by omega)))
  simp only [Int.natCast_ediv, Int.natCast_emod, Int.natCast_mul, Int.natCast_add, Int.natCast_pow] at this ⊢
  exact this
theorem U64_shr {x : Int} {s : Nat} (hx : U64 x) : U64 (x / 2 ^ s) := by
  have h : (0:Int) < 2 ^ s := Int.pow_pos (by omega)
  refine ⟨Int.ediv_nonneg hx.1 (by omega), Int.lt_of_le_of_lt (Int.ediv_le_self _ hx.1) hx.2⟩
theorem U64_or {x y : Int} {s : Nat} (hx : U64 x) (hy : U64 y) (hs : s < 64) : U64 (x / 2 ^ s + y % 2 ^ s * 2 ^ (64 - s)) := by
  rw [← shr_or hx hy hs]
  exact ⟨by simp only [bits]; rw [IntKind.wrap_u64]; omega, by simp only [bits]; rw [IntKind.wrap_u64]; omega⟩
/-- One word further. -/
theorem rsh_step {X Z : Nat → Int} {x y : Int} {k s : Nat} (hs : s < 64) (h : 2 ^ s * val Z k + X 0 % 2 ^ s = val X k + (X k % 2 ^ s) * BB ^ k) (hx : X k = x) (hy : X (k + 1) = y) (hz : Z k = x / 2 ^ s + y % 2 ^ s * 2 ^ (64 - s)) :
    2 ^ s * val Z (k + 1) + X 0 % 2 ^ s = val X (k + 1) + (X (k + 1) % 2 ^ s) * BB ^ (k + 1) := by
  have hp : (2:Int) ^ s * 2 ^ (64 - s) = BB := by rw [← Int.pow_add, show s + (64 - s) = 64 by omega]; rfl
  have hd := Int.mul_ediv_add_emod x (2 ^ s)
  simp only [val, hx, hy, hz, BB_succ] at h ⊢
  grind
theorem rsh_last {X Z : Nat → Int} {x : Int} {k s : Nat} (h : 2 ^ s * val Z k + X 0 % 2 ^ s = val X k + (X k % 2 ^ s) * BB ^ k) (hx : X k = x) (hz : Z k = x / 2 ^ s) :
    2 ^ s * val Z (k + 1) + X 0 % 2 ^ s = val X (k + 1) := by
  have hd := Int.mul_ediv_add_emod x (2 ^ s)
  simp only [val, hx, hz] at h ⊢
  grind
def RshPost (w : World) (bz oz n : Nat) (X : Nat → Int) (s : Nat) (_ : Int) (w' : World) : Prop :=
  ∃ Z, Chg (zRow bz oz n) w w' ∧ Words w' bz oz n Z ∧ WF Z n ∧ 2 ^ s * val Z n + X 0 % 2 ^ s = val X n
set_option maxHeartbeats 2000000 in
theorem rshVU_g_any (bx ox bz oz n cx cz : Nat) (X : Nat → Int) (s : Nat) (w : World) (hn : n < 4611686018427387904) (hn1 : 0 < n) (hX : Words w bx ox n X) (hXw : WF X n) (hz : Room w bz oz n) (hf : Fwd bx ox bz oz n) (hs0 : 0 < s) (hs : s < 64) :
    Calls Tryz.prog 233 #[.slice (some ⟨bz, oz, none⟩) n cz, .slice (some ⟨bx, ox, none⟩) n cx, .int .u64 s] w (OneWord (RshPost w bz oz n X s)) := by
  have hm1 := and63 s hs
  have hm2 := and63 (64 - s) (by omega)
  have hm3 : ((64 - s : Nat) : Int) = 64 - (s : Int) := by omega
  rw [hm3] at hm2
  have hsb : ((s : Int) == 0) = false := by simp; omega
  have hnb : ((n : Int) == 0) = false := by simp; omega
  have hx0 := hX 0 (by omega)
  simp only [Nat.add_zero] at hx0
  have HX := Lib.hid hX
  have HXw := Lib.hid hXw
  have Hz := Lib.hid hz
  have Hf := Lib.hid hf
  clear hX hXw hz hf
  clear hm3
  go_enter Tryz.func233, Tryz.ntmps233
  go_wp2_with fail
  go_loopw [8] (fun si wr => ∃ (k : Nat) (Z : Nat → Int), si = .int .i64 (k + 1) ∧ k + 1 ≤ n ∧ Hid (Chg (zRow bz oz k) w wr ∧ Words wr bz oz k Z ∧ WF Z k ∧ 2 ^ s * val Z k + X 0 % 2 ^ s = val X k + (X k % 2 ^ s) * BB ^ k)) (fun si _ => n - (intOf si).toNat)
  case atStart => exact ⟨0, fun _ => 0, rfl, by omega, Chg.refl _ _, fun i hi => by omega, fun i hi => by omega, by simp [val]⟩
  case round =>
    obtain ⟨k, Z, rfl, hk, H⟩ := hrel
    have hcx := fwd_keep Hf.out hk H.out.1 (HX.out k hk)
    obtain ⟨⟨zk, hzk0⟩, hzf0⟩ := Hz.out k hk
    have hzk1 := H.out.1.isCell (by rw [hzk0]; rfl)
    obtain ⟨zv, hzk⟩ := Option.isSome_iff_exists.1 hzk1
    have hzf := (H.out.1.frozen hzk0 (oz + k)).trans hzf0
    clear hzk0 hzf0 hzk1
    obtain ⟨xk, hxe⟩ : ∃ x, X k = x := ⟨_, rfl⟩
    rw [hxe] at hcx
    have Hxe := Lib.hid hxe
    have hxw : Hid (U64 xk) := by rw [← hxe]; exact HXw.out k hk
    clear hxe
    by_cases hlt : k + 1 < n
    · have hcy := fwd_keep Hf.out hlt (H.out.1.mono (fun _ _ _ hz => ⟨hz.1, hz.2.1, by have := hz.2.2; omega⟩)) (HX.out (k + 1) hlt)
      obtain ⟨yk, hye⟩ : ∃ x, X (k + 1) = x := ⟨_, rfl⟩
      rw [hye] at hcy
      have Hye := Lib.hid hye
      have hyw : Hid (U64 yk) := by rw [← hye]; exact HXw.out (k + 1) hlt
      clear hye
      go_wp2_with fail
      go_region
      go_wp2
      go_roundw
      case rel =>
        have hv := shr_or hxw.out hyw.out hs
        refine ⟨k + 1, upd Z k (xk / 2 ^ s + yk % 2 ^ s * 2 ^ (64 - s)), by go_num, by omega, ?_⟩
        rw [hv]
        refine ⟨(chg_snoc H.out.1 _).drew, H.out.2.1.snoc (by rw [hzk]; rfl), WF_upd H.out.2.2.1 (U64_or hxw.out hyw.out hs), ?_⟩
        exact rsh_step hs (by rw [val_upd]; exact H.out.2.2.2) Hxe.out Hye.out (upd_same _ _ _)
      case measure => simp [intOf]; omega
    · have hkn : n = k + 1 := by omega
      have hb1 : decide (((k:Int) + 1) < (n : Int)) = false := by simp; omega
      go_wp2_with fail
      go_ret
      refine ⟨_, rfl, upd Z k (xk / 2 ^ s), ?_⟩
      rw [hkn]
      refine ⟨chg_snoc H.out.1 _, H.out.2.1.snoc (by rw [hzk]; rfl), WF_upd H.out.2.2.1 (U64_shr hxw.out), ?_⟩
      exact rsh_last (x := xk) (by rw [val_upd]; exact H.out.2.2.2) Hxe.out (upd_same _ _ _)
theorem rshVU_any (bx ox bz oz n cx cz : Nat) (X : Nat → Int) (s : Nat) (w : World) (hn : n < 4611686018427387904) (hn1 : 0 < n) (hX : Words w bx ox n X) (hXw : WF X n) (hz : Room w bz oz n) (hf : Fwd bx ox bz oz n) (hs0 : 0 < s) (hs : s < 64) :
    Calls Tryz.prog 199 #[.slice (some ⟨bz, oz, none⟩) n cz, .slice (some ⟨bx, ox, none⟩) n cx, .int .u64 s] w (OneWord (RshPost w bz oz n X s)) := by
  have H := Lib.hid (rshVU_g_any bx ox bz oz n cx cz X s w hn hn1 hX hXw hz hf hs0 hs)
  clear hX hXw hz hf
  go_enter Tryz.func199, Tryz.ntmps199
  go_wp2_with fail
  refine H.out.mono ?_
  rintro e w1 ⟨c, rfl, hp⟩
  have Hp := Lib.hid hp
  clear hp
  go_wp2
  go_ret
  exact ⟨c, rfl, Hp.out⟩
theorem fwd_of_home {w : World} {az : Option Addr} {zc bx ox xn b o c q m : Nat} (hh : Home w az zc (some ⟨b, o, none⟩) c) (ha : Apart az zc (some ⟨bx, ox, none⟩) xn) (hb : bx < w.heap.size) (hq : q + m ≤ xn) (hm : m ≤ c) : Fwd bx (ox + q) b o m := by
  rcases hh with ⟨e1, e2⟩ | ⟨b', o', e1, e2⟩
  · rcases ha with e3 | e3
    · rw [← e1] at e3; injection e3 with e3; injection e3 with e3 e4; exact Or.inr (Or.inl (by omega))
    · by_cases hbb : bx = b
      · subst hbb
        refine Or.inr ?_
        by_cases hle : o ≤ ox + q
        · exact Or.inl hle
        · refine Or.inr ?_
          by_cases hgt : ox + q + m ≤ o
          · exact hgt
          · exact absurd ⟨o, e1.symm, by omega, by omega⟩ (e3 bx ox (o - ox) rfl (by omega))
      · exact Or.inl hbb
  · injection e1 with e1; injection e1 with e1; exact Or.inl (by omega)
theorem two64 : (2:Int) ^ 64 = BB := rfl
theorem two_split (s : Nat) : (2:Int) ^ s = BB ^ (s / 64) * 2 ^ (s % 64) := by
  rw [← two64, ← Int.pow_mul, ← Int.pow_add]
  congr 1; omega
theorem val_shr {X : Nat → Int} {n s : Nat} (hX : WF X n) (h : s / 64 ≤ n) : val X n / 2 ^ s = val (fun i => X (s / 64 + i)) (n - s / 64) / 2 ^ (s % 64) := by
  have e := val_add X (s / 64) (n - s / 64)
  rw [show s / 64 + (n - s / 64) = n by omega] at e
  have h0 := val_nonneg (hX.le h)
  have h1 := val_lt (hX.le h)
  rw [two_split, ← Int.ediv_ediv_of_nonneg (Int.le_of_lt (BBn_pos _)), e, Int.add_mul_ediv_left _ _ (by have := BBn_pos (s / 64); omega), Int.ediv_eq_zero_of_lt h0 h1, Int.zero_add]
theorem val_shr_zero {X : Nat → Int} {n s : Nat} (hX : WF X n) (h : n ≤ s / 64) : val X n / 2 ^ s = 0 := by
  have h0 := val_nonneg hX
  have h1 := val_lt hX
  refine Int.ediv_eq_zero_of_lt h0 (Int.lt_of_lt_of_le h1 ?_)
  rw [two_split, show s / 64 = n + (s / 64 - n) by omega, Int.pow_add, Int.mul_assoc]
  have a := BBn_pos n
  have b : (0:Int) < BB ^ (s / 64 - n) * 2 ^ (s % 64) := Int.mul_pos (BBn_pos _) (Int.pow_pos (by omega))
  have := Int.mul_le_mul_of_nonneg_left (c := BB ^ n) (show (1:Int) ≤ BB ^ (s / 64 - n) * 2 ^ (s % 64) by omega) (by omega)
  omega
theorem shr_of_post {v z x0 : Int} {s : Nat} (h : 2 ^ s * z + x0 % 2 ^ s = v) : z = v / 2 ^ s := by
  have hp : (0:Int) < 2 ^ s := Int.pow_pos (by omega)
  have h1 := Int.emod_nonneg x0 (show (2:Int) ^ s ≠ 0 by omega)
  have h2 := Int.emod_lt_of_pos x0 hp
  rw [← h, Int.add_comm, Int.add_mul_ediv_left _ _ (by omega), Int.ediv_eq_zero_of_lt h1 h2]
  omega
end Go.Proofs.YtmgfajamanakcaaGreatDoor
namespace Go.Proofs.YtmgfajamanakcaaGreatDoor
open Go.RowKit
set_option maxRecDepth 100000
set_option linter.unusedVariables false
/-- The first m of c cells were written with words: all c may be written. -/
theorem room_after {w w' : World} {b o m c : Nat} {Z : Nat → Int} (h : Room w b o c) (hm : m ≤ c) (k : Chg (zRow b o m) w w') (hw : Words w' b o m Z) : Room w' b o c := by
  have h1 : Room w' b o m := hw.room (fun i hi => by
    obtain ⟨⟨z, hz⟩, hf⟩ := h i (by omega)
    rw [k.frozen hz]; exact hf)
  have h2 : Room w' b (o + m) (c - m) := (h.drop m (c - m) (by omega)).chg k (fun i hi ⟨_, _, h3⟩ => by omega)
  have := h1.join h2
  rwa [show m + (c - m) = c by omega] at this
/-- What make gave, m words written there, without its last words 0: a result. -/
theorem natres_close {w w1 w2 : World} {az : Option Addr} {zc b o c m i : Nat} {Z : Nat → Int} {v : Int}
    (H : m ≤ c ∧ ZOK w1 (some ⟨b, o, none⟩) c ∧ Home w az zc (some ⟨b, o, none⟩) c ∧ Chg zNone w w1 ∧ PB w1 b ∧ Room w1 b o c)
    (k : Chg (zRow b o m) w1 w2) (hw : Words w2 b o m Z) (hwf : WF Z m) (hv : val Z m = v)
    (n1 : i ≤ m) (n2 : ∀ j, i ≤ j → j < m → Z j = 0) (n3 : Norm Z i) : NatRes w az zc v (.returned (.slice (some ⟨b, o, none⟩) i c)) w2 := by
  obtain ⟨q1, q2, q3, q4, q5, q6⟩ := H
  refine ⟨some ⟨b, o, none⟩, i, c, Z, rfl, by omega, Or.inr ⟨b, o, rfl, q5.chg k, room_after q6 q1 k hw, q2.cap⟩, Or.inr ⟨b, o, rfl, hw.le n1⟩, hwf.le n1, n3, ?_, q3, ?_⟩
  · rw [← val_top n1 n2]; exact hv
  · exact (q4.mono (Z' := zAddr az zc) (fun _ _ _ h => h.elim)).trans k (fun bb oo hbb ⟨e1, e2, e3⟩ => q3.zone bb oo hbb ⟨o, by rw [e1], e2, by omega⟩)
set_option maxHeartbeats 2000000 in
theorem rsh_any (az ax : Option Addr) (zl zc xn xc : Nat) (X : Nat → Int) (s : Nat) (w : World) (hz : ZOK w az zc) (hx : Rd w ax xn X) (hxw : WF X xn) (hxc : xn ≤ xc) (hxn : xn < 1099511627776) (hap : Apart az zc ax xn) (hs0 : 0 < s) (hs : s < 4294967296) :
    Calls Tryz.prog 178 #[.slice az zl zc, .slice ax xn xc, .int .u64 s] w (NatRes w az zc (val X xn / 2 ^ s)) := by
  have Hz := Lib.hid hz
  have Hx := Lib.hid hx
  have Hxw := Lib.hid hxw
  have Hap := Lib.hid hap
  have hzc := hz.cap
  clear hz hx hxw hap
  have hsb : ((s : Int) == 0) = false := by simp; omega
  by_cases hm : xn ≤ s / 64
  · have hb : decide ((xn : Int) - (s : Int) / 64 ≤ 0) = true := by simp; omega
    have H0 := Lib.hid (val_shr_zero Hxw.out hm)
    go_enter Tryz.func178, Tryz.ntmps178
    go_wp2
    go_ret
    exact ⟨az, 0, zc, fun _ => 0, rfl, Nat.zero_le _, Hz.out, Or.inl rfl, fun i hi => by omega, Or.inl rfl, H0.out.symm, Or.inl ⟨rfl, rfl⟩, Chg.refl _ _⟩
  · have hb : decide ((xn : Int) - (s : Int) / 64 ≤ 0) = false := by simp; omega
    go_enter Tryz.func178, Tryz.ntmps178
    go_wp2_with fail
    rw [show ((xn : Int) - (s : Int) / 64) = ((xn - s / 64 : Nat) : Int) from by omega]
    obtain ⟨m, hmm⟩ : ∃ m, xn - s / 64 = m := ⟨_, rfl⟩
    rw [hmm]
    refine (make_any az zl zc m _ Hz.out (by omega)).mono ?_
    rintro e w1 ⟨a, c, rfl, h1, h2, h3, h4⟩
    obtain ⟨b, o, rfl, hb1, hroom⟩ := h2.room (by omega)
    have hcap := h2.cap
    obtain ⟨bx, ox, rfl, hX⟩ : ∃ bx ox, ax = some ⟨bx, ox, none⟩ ∧ Words w bx ox xn X := by
      rcases Hx.out with h | h
      · exact absurd h (by omega)
      · exact h
    have hbx : bx < w.heap.size := lt_of_cell (hX 0 (by omega))
    have hX1 : Words w1 bx (ox + s / 64) m (fun i => X (s / 64 + i)) := (hX.chg h4 (fun i hi h => h.elim)).drop (s / 64) m (by omega)
    have hfwd : Fwd bx (ox + s / 64) b o m := fwd_of_home h3 Hap.out hbx (by omega) h1
    have H := Lib.hid (And.intro h1 (And.intro h2 (And.intro h3 (And.intro h4 (And.intro hb1 hroom)))))
    have HX1 := Lib.hid hX1
    have HF := Lib.hid hfwd
    have hmc : m ≤ c := h1
    clear h1 h2 h3 h4 hroom hX1 hfwd hX hbx hb1
    have hsub : (xn : Int) - (m : Int) = ((s / 64 : Nat) : Int) := by omega
    by_cases hr : s % 64 = 0
    · have hrb : ((s : Int) % 64 == 0) = true := by simp; omega
      have HRd : Hid (Rd w1 (some ⟨bx, ox + s / 64, none⟩) m (fun i => X (s / 64 + i))) := Or.inr ⟨bx, ox + s / 64, rfl, HX1.out⟩
      go_wp2_with (with_reducible refine wpList_copy_word rfl (.tmp 40) (.tmp 45) 120 120 rfl Tryz.underlying120 b o m c (some ⟨bx, ox + s / 64, none⟩) (xn - s / 64) (xc - s / 64) m (fun i => X (s / 64 + i)) rfl rfl (by rw [hmm]; exact (Nat.min_self m).symm) (H.out.2.2.2.2.2.le H.out.1) HRd.out ?_; rintro w2 hw2; have Hq := Lib.hid hw2; clear hw2)
      go_wp2_with fail
      refine (norm_any (some ⟨b, o, none⟩) m c (fun i => X (s / 64 + i)) _ (Or.inr ⟨b, o, rfl, Hq.out.2.1⟩) hmc hcap).mono ?_
      rintro e w3 ⟨i, rfl, n1, n2, n3, rfl⟩
      have HR := Lib.hid (natres_close H.out Hq.out.1 Hq.out.2.1 (fun i hi => Hxw.out _ (by omega)) rfl n1 n2 n3)
      clear n1 n2 n3
      go_wp2
      go_ret
      rw [val_shr Hxw.out (by omega), hr, hmm]
      simpa using HR.out
    · have hrb : ((s : Int) % 64 == 0) = false := by simp; omega
      go_wp2_with fail
      rw [show ((s : Int) % 64) = ((s % 64 : Nat) : Int) from by omega]
      refine (rshVU_any bx (ox + s / 64) b o m (xc - s / 64) c (fun i => X (s / 64 + i)) (s % 64) _ (by omega) (by omega) HX1.out (fun i hi => Hxw.out _ (by omega)) (H.out.2.2.2.2.2.le H.out.1) HF.out (by omega) (by omega)).mono ?_
      rintro e w2 ⟨cy, rfl, Z, q1, q2, q3, q4⟩
      have Hq := Lib.hid (And.intro q1 (And.intro q2 (And.intro q3 (shr_of_post q4))))
      clear q1 q2 q3 q4
      go_wp2_with fail
      refine (norm_any (some ⟨b, o, none⟩) m c Z _ (Or.inr ⟨b, o, rfl, Hq.out.2.1⟩) hmc hcap).mono ?_
      rintro e w3 ⟨i, rfl, n1, n2, n3, rfl⟩
      have HR := Lib.hid (natres_close H.out Hq.out.1 Hq.out.2.1 Hq.out.2.2.1 Hq.out.2.2.2 n1 n2 n3)
      clear n1 n2 n3
      go_wp2
      go_ret
      rw [val_shr Hxw.out (by omega), hmm]
      exact HR.out
end Go.Proofs.YtmgfajamanakcaaGreatDoor
namespace Go.Proofs.YtmgfajamanakcaaGreatDoor
open Go.RowKit
set_option maxRecDepth 100000
set_option linter.unusedVariables false
theorem Words.upd {w : World} {b o n j : Nat} {Y : Nat → Int} (h : Words w b o n Y) (hj : j < n) (v : Int) : Words (w.setCell ⟨b, o + j, none⟩ (.int .u64 v)) b o n (upd Y j v) := fun i hi => by
  by_cases e : i = j
  · subst e; rw [upd_same]; exact World.cell?_setCell_same' _ _ _ (by rw [h i hi]; rfl)
  · rw [upd_other Y v e, World.cell?_setCell_other w _ _ _ (by intro h; injection h with _ h2 _; omega)]
    exact h i hi
/-- The outer k places on either side turned. -/
def turned (X : Nat → Int) (n k : Nat) : Nat → Int := fun i => if i < k ∨ n ≤ i + k then X (n - 1 - i) else X i
theorem turned_step {X : Nat → Int} {n k : Nat} (h : 2 * k + 1 < n) (i : Nat) (hi : i < n) : upd (upd (turned X n k) k (X (n - 1 - k))) (n - 1 - k) (X k) i = turned X n (k + 1) i := by
  unfold upd turned
  by_cases h1 : i = n - 1 - k
  · subst h1; simp only [if_true]; rw [if_pos (by omega)]; congr 1; omega
  · rw [if_neg h1]
    by_cases h2 : i = k
    · subst h2; simp only [if_true]; rw [if_pos (by omega)]
    · rw [if_neg h2]
      by_cases h3 : i < k ∨ n ≤ i + k
      · rw [if_pos h3, if_pos (by omega)]
      · rw [if_neg h3, if_neg (by omega)]
theorem turned_mid {X : Nat → Int} {n k : Nat} (i : Nat) (h1 : k ≤ i) (h2 : i + k < n) : turned X n k i = X i := by unfold turned; rw [if_neg (by omega)]
theorem turned_end {X : Nat → Int} {n k : Nat} (h : n ≤ 2 * k + 1) (i : Nat) (hi : i < n) : turned X n k i = X (n - 1 - i) := by
  unfold turned
  by_cases h1 : i < k ∨ n ≤ i + k
  · rw [if_pos h1]
  · rw [if_neg h1]; congr 1; omega
def RevPost (w : World) (b o n : Nat) (X : Nat → Int) (e : Ending) (w' : World) : Prop :=
  (∃ v, e = .returned v) ∧ Chg (zRow b o n) w w' ∧ Words w' b o n (fun i => X (n - 1 - i))
set_option maxHeartbeats 2000000 in
theorem reverse_any (b o n c : Nat) (X : Nat → Int) (w : World) (hn : n < 4611686018427387904) (hX : Words w b o n X) (hf : Free w b o n) :
    Calls Tryz.prog 184 #[.slice (some ⟨b, o, none⟩) n c] w (RevPost w b o n X) := by
  have HX := Lib.hid hX
  have HF := Lib.hid hf
  clear hX hf
  go_enter Tryz.func184, Tryz.ntmps184
  go_wp2_with fail
  go_loopw [2, 3] (fun si sj wr => ∃ (k : Nat), si = .int .i64 k ∧ sj = .int .i64 ((n : Int) - 1 - k) ∧ k ≤ n ∧ Hid (Chg (zRow b o n) w wr ∧ Words wr b o n (turned X n k))) (fun si sj _ => n - (intOf si).toNat)
  case atStart => exact ⟨0, rfl, by simp, Nat.zero_le _, Chg.refl _ _, HX.out.congr (fun i hi => (turned_mid i (Nat.zero_le _) hi).symm)⟩
  case round =>
    obtain ⟨k, rfl, rfl, hk, H⟩ := hrel
    by_cases hlt : 2 * k + 1 < n
    · have hb : decide ((k : Int) < (n : Int) - 1 - k) = true := by simp; omega
      have hq : (n : Int) - 1 - k = ((n - 1 - k : Nat) : Int) := by omega
      have hc1 := H.out.2 k (by omega)
      have hc2 := H.out.2 (n - 1 - k) (by omega)
      rw [turned_mid k (Nat.le_refl _) (by omega)] at hc1
      rw [turned_mid (n - 1 - k) (by omega) (by omega)] at hc2
      have hf1 := (H.out.1.frozen (HX.out k (by omega)) (o + k)).trans (HF.out k (by omega))
      have hf2 := (H.out.1.frozen (HX.out k (by omega)) (o + (n - 1 - k))).trans (HF.out (n - 1 - k) (by omega))
      have hk1 : k < n := by omega
      go_wp2_with fail
      go_region
      go_wp2
      refine ⟨⟨k + 1, by go_num, by go_num, by omega, ?_⟩, by simp [intOf]; omega⟩
      have h1 : (n - 1 - k) < n := by omega
      exact ⟨((H.out.1.setCell b (o + k) _ (fun _ => ⟨rfl, by omega, by omega⟩)).setCell b (o + (n - 1 - k)) _ (fun _ => ⟨rfl, by omega, by omega⟩)).drew, ((H.out.2.upd hk1 _).upd h1 _).congr (turned_step hlt)⟩
    · have hb : decide ((k : Int) < (n : Int) - 1 - k) = false := by simp; omega
      go_wp2_with fail
      go_end0
      exact ⟨⟨_, rfl⟩, H.out.1, H.out.2.congr (turned_end (by omega))⟩
end Go.Proofs.YtmgfajamanakcaaGreatDoor
namespace Go.Proofs.YtmgfajamanakcaaGreatDoor
open Go.RowKit
set_option maxRecDepth 100000
set_option linter.unusedVariables false
/-- The errors that the scanning names: io.EOF, errInvalSep, errNoDigits. -/
structure Errs (w : World) (eof e1 e2 : Value) : Prop where
  eof : w.cell? ⟨0, 0, none⟩ = some eof
  sep : w.cell? ⟨2, 0, none⟩ = some e1
  dig : w.cell? ⟨3, 0, none⟩ = some e2
theorem Errs.chg {Z : Zone} {w w' : World} {eof e1 e2 : Value} (h : Errs w eof e1 e2) (k : Chg Z w w') (hz : ∀ b, ¬ Z b 0) : Errs w' eof e1 e2 := ⟨k.cell h.eof (hz _), k.cell h.sep (hz _), k.cell h.dig (hz _)⟩
/-- The byte that was read at place q, or the end. -/
def Head (w : World) (br : Nat) (s : ByteArray) (q : Nat) (more : Bool) (c : Int) : Prop :=
  c = (if more then byteAt s q else 0) ∧ (more = true ↔ q < s.size) ∧ RdAt w br s (if more then q + 1 else q)
def errOf (more : Bool) (eof : Value) : Value := if more then .nilIface else eof
theorem errOf_true (v : Value) : errOf true v = .nilIface := rfl
theorem errOf_false (v : Value) : errOf false v = v := rfl
def HeadPost (w : World) (br : Nat) (s : ByteArray) (q : Nat) (eof : Value) (e : Ending) (w' : World) : Prop :=
  ∃ more c, e = .returned (.tuple #[.int .u8 c, errOf more eof]) ∧ Head w' br s q more c ∧ Chg (zRow br 1 2) w w'
theorem read_head (br : Nat) (s : ByteArray) (q : Nat) (eof : Value) (w : World) (h : RdAt w br s q) (hs : s.size < 4611686018427387904) (hq : q ≤ s.size) (hbr : br ≠ 0) (hE : w.cell? ⟨0, 0, none⟩ = some eof) :
    Calls Tryz.prog 113 #[.pointer (some ⟨br, 0, none⟩)] w (HeadPost w br s q eof) := by
  by_cases hi : q < s.size
  · refine (read_more br s q _ w h hi hs rfl).mono ?_
    rintro e w' ⟨rfl, h1, h2⟩
    exact ⟨true, _, rfl, ⟨rfl, by simp [hi], h1⟩, h2⟩
  · refine (ReadByte_end br s q eof w h (by omega) (by omega) hbr hE).mono ?_
    rintro e w' ⟨rfl, h1, h2⟩
    exact ⟨false, _, rfl, ⟨rfl, by simp [hi], h1⟩, h2⟩
def PreRel (w : World) (br : Nat) (s : ByteArray) (eof : Value) (PR : Pre) (s9 s10 s11 s13 s15 s16 : Value) (wc : World) : Prop :=
  ∃ more c, s9 = .int .i64 PR.b ∧ s10 = .int .i64 PR.cnt ∧ s11 = errOf more eof ∧ s13 = .int .i32 PR.prev ∧ s15 = .int .u8 c ∧ s16 = .int .i64 PR.pf ∧ Hid (Head wc br s PR.p more c ∧ Chg (zRow br 1 2) w wc)
theorem zrow_zero {br b : Nat} : ¬ zRow br 1 2 b 0 := fun ⟨_, h, _⟩ => by omega
theorem pre_two (frac : Bool) {s : ByteArray} {p : Nat} (h0 : p + 1 < s.size) (h1 : byteAt s p = 48) (h2 : byteAt s (p + 1) = 98 ∨ byteAt s (p + 1) = 66) : preS 0 frac s p = ⟨2, 98, p + 2, 48, 0⟩ := by
  unfold preS; rw [if_neg (by simp), if_pos ⟨by omega, h1⟩, if_pos h0, if_pos h2]
theorem pre_eight (frac : Bool) {s : ByteArray} {p : Nat} (h0 : p + 1 < s.size) (h1 : byteAt s p = 48) (h2 : byteAt s (p + 1) = 111 ∨ byteAt s (p + 1) = 79) : preS 0 frac s p = ⟨8, 111, p + 2, 48, 0⟩ := by
  unfold preS; rw [if_neg (by simp), if_pos ⟨by omega, h1⟩, if_pos h0, if_neg (by omega), if_pos h2]
theorem pre_sixteen (frac : Bool) {s : ByteArray} {p : Nat} (h0 : p + 1 < s.size) (h1 : byteAt s p = 48) (h2 : byteAt s (p + 1) = 120 ∨ byteAt s (p + 1) = 88) : preS 0 frac s p = ⟨16, 120, p + 2, 48, 0⟩ := by
  unfold preS; rw [if_neg (by simp), if_pos ⟨by omega, h1⟩, if_pos h0, if_neg (by omega), if_neg (by omega), if_pos h2]
theorem pre_other (frac : Bool) {s : ByteArray} {p : Nat} (h0 : p + 1 < s.size) (h1 : byteAt s p = 48) (h2 : byteAt s (p + 1) ≠ 98) (h3 : byteAt s (p + 1) ≠ 66) (h4 : byteAt s (p + 1) ≠ 111) (h5 : byteAt s (p + 1) ≠ 79) (h6 : byteAt s (p + 1) ≠ 120) (h7 : byteAt s (p + 1) ≠ 88) :
    preS 0 frac s p = if frac = true then ⟨10, 0, p + 1, 48, 1⟩ else ⟨8, 48, p + 1, 48, 0⟩ := by
  unfold preS; rw [if_neg (by simp), if_pos ⟨by omega, h1⟩, if_pos h0, if_neg (by omega), if_neg (by omega), if_neg (by omega)]
theorem pre_zero (frac : Bool) {s : ByteArray} {p : Nat} (h0 : ¬ p + 1 < s.size) (hp : p < s.size) (h1 : byteAt s p = 48) : preS 0 frac s p = ⟨10, 0, p + 1, 48, 1⟩ := by
  unfold preS; rw [if_neg (by simp), if_pos ⟨hp, h1⟩, if_neg h0]
theorem pre_none (frac : Bool) {s : ByteArray} {p : Nat} (h : ¬ (p < s.size ∧ byteAt s p = 48)) : preS 0 frac s p = ⟨10, 0, p, 46, 0⟩ := by
  unfold preS; rw [if_neg (by simp), if_neg h]
theorem pre_given {base : Int} (frac : Bool) {s : ByteArray} {p : Nat} (h : base ≠ 0) : preS base frac s p = ⟨base, 0, p, 46, 0⟩ := by
  unfold preS; rw [if_pos h]
/-- What the switch over the prefix's byte leaves. -/
def SwRel (frac : Bool) (s : ByteArray) (p : Nat) (w : World) (s9 s16 : Value) (wc : World) : Prop :=
  ∃ b pf : Int, s9 = .int .i64 b ∧ s16 = .int .i64 pf ∧ w = wc ∧ Hid (preS 0 frac s p = if pf = 0 then ⟨b, 0, p + 1, 48, 1⟩ else if pf = 48 then ⟨b, 48, p + 1, 48, 0⟩ else ⟨b, pf, p + 2, 48, 0⟩)
end Go.Proofs.YtmgfajamanakcaaGreatDoor
namespace Go.Proofs.YtmgfajamanakcaaGreatDoor
set_option linter.unusedVariables false
/-- A byte that a number has. -/
def okB (c : Int) : Prop := (48 ≤ c ∧ c ≤ 57) ∨ (97 ≤ c ∧ c ≤ 102) ∨ (65 ≤ c ∧ c ≤ 70) ∨ c = 46 ∨ c = 95 ∨ c = 43 ∨ c = 45 ∨ c = 112 ∨ c = 80 ∨ c = 120 ∨ c = 88 ∨ c = 111 ∨ c = 79
theorem okB_step {b0 : Bool} {b : Int} {st st' : SS} {c : Int} (hb : b ≤ 16) (h : stepS b0 b st c = some st') : okB c := by
  unfold stepS at h
  split at h
  · rename_i h1; unfold okB; omega
  · split at h
    · rename_i h1; unfold okB; omega
    · split at h
      · rename_i h1
        unfold digOf at h1
        unfold okB
        split at h1
        · omega
        · split at h1
          · omega
          · split at h1 <;> omega
      · cases h
theorem runF_ok {b0 : Bool} {b : Int} {s : ByteArray} (hb : b ≤ 16) : ∀ (k p : Nat) (st : SS), p ≤ (runF b0 b s k p st).1 ∧ (runF b0 b s k p st).1 ≤ p + k ∧ ∀ i, p ≤ i → i < (runF b0 b s k p st).1 → okB (byteAt s i)
  | 0, p, st => ⟨Nat.le_refl _, Nat.le_refl _, fun i h1 h2 => by simp only [runF] at h2; omega⟩
  | k + 1, p, st => by
    simp only [runF]
    split
    · exact ⟨Nat.le_refl _, by simp, fun i h1 h2 => by simp only at h2; omega⟩
    · rename_i st' hs
      obtain ⟨h1, h2, h3⟩ := runF_ok hb k (p + 1) st' (b0 := b0) (s := s)
      refine ⟨by omega, by omega, fun i h4 h5 => ?_⟩
      by_cases e : i = p
      · subst e; exact okB_step hb hs
      · exact h3 i (by omega) h5
theorem preS_ok {base : Int} {frac : Bool} {s : ByteArray} {p : Nat} (hp : p ≤ s.size) (hb : base ≤ 16) : (preS base frac s p).b ≤ 16 ∧ p ≤ (preS base frac s p).p ∧ (preS base frac s p).p ≤ s.size ∧ ∀ i, p ≤ i → i < (preS base frac s p).p → okB (byteAt s i) := by
  unfold preS
  split
  · exact ⟨hb, Nat.le_refl _, hp, fun i h1 h2 => by simp only at h2; omega⟩
  · split
    · rename_i h48
      have h0 : okB (byteAt s p) := by unfold okB; omega
      have h1 : ∀ i, p ≤ i → i < p + 1 → okB (byteAt s i) := fun i a b => (show i = p by omega) ▸ h0
      have h2 : okB (byteAt s (p + 1)) → ∀ i, p ≤ i → i < p + 2 → okB (byteAt s i) := fun hh i a b => by
        by_cases e : i = p
        · subst e; exact h0
        · obtain rfl : i = p + 1 := by omega
          exact hh
      split
      · split
        · exact ⟨by simp, by simp, by simp only; omega, h2 (by unfold okB; omega)⟩
        · split
          · exact ⟨by simp, by simp, by simp only; omega, h2 (by unfold okB; omega)⟩
          · split
            · exact ⟨by simp, by simp, by simp only; omega, h2 (by unfold okB; omega)⟩
            · split
              · exact ⟨by simp, by simp, by simp only; omega, h1⟩
              · exact ⟨by simp, by simp, by simp only; omega, h1⟩
      · exact ⟨by simp, by simp, by simp only; omega, h1⟩
    · exact ⟨by simp, Nat.le_refl _, hp, fun i h1 h2 => by simp only at h2; omega⟩
theorem lastS_ok {base : Int} {frac : Bool} {s : ByteArray} {p : Nat} (hp : p ≤ s.size) (hb : base ≤ 16) : p ≤ (lastS base frac s p).1 ∧ (lastS base frac s p).1 ≤ s.size ∧ ∀ i, p ≤ i → i < (lastS base frac s p).1 → okB (byteAt s i) := by
  obtain ⟨h1, h2, h3, h4⟩ := preS_ok (frac := frac) hp hb
  unfold lastS runS
  obtain ⟨g1, g2, g3⟩ := runF_ok h1 (b0 := base == 0) (s := s) (s.size - (preS base frac s p).p) (preS base frac s p).p (startS base frac s p)
  refine ⟨by omega, by omega, fun i a b => ?_⟩
  by_cases e : i < (preS base frac s p).p
  · exact h4 i a e
  · exact g3 i (by omega) b
theorem scanS_p {base : Int} {frac : Bool} {s : ByteArray} {p : Nat} : (scanS base frac s p).p = (lastS base frac s p).1 := by
  unfold scanS
  simp only
  split <;> rfl
theorem scanS_ok {base : Int} {frac : Bool} {s : ByteArray} {p : Nat} (hp : p ≤ s.size) (hb : base ≤ 16) : p ≤ (scanS base frac s p).p ∧ (scanS base frac s p).p ≤ s.size ∧ ∀ i, p ≤ i → i < (scanS base frac s p).p → okB (byteAt s i) := by
  rw [scanS_p]; exact lastS_ok hp hb
end Go.Proofs.YtmgfajamanakcaaGreatDoor
