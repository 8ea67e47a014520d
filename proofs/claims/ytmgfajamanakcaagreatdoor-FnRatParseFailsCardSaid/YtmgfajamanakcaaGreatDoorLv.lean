/-
  Shifts to the left of rows of words: lshVU. Conditions: 0 < s < 64, what is read is not written ahead of its reading (from above).
-/
import Derived.Test.YtmgfajamanakcaaGreatDoorMl
namespace Go.Proofs.YtmgfajamanakcaaGreatDoor
open Go.RowKit
set_option maxRecDepth 100000
set_option linter.unusedVariables false
theorem or_comm_bits (a b : Int) : bits BinOp.or IntKind.u64 a b = bits BinOp.or IntKind.u64 b a := by
  simp only [bits]
  rw [BitVec.or_comm]
theorem shl_or {x y : Int} {s : Nat} (hx : U64 x) (hy : U64 y) (hs0 : 0 < s) (hs : s < 64) : bits BinOp.or IntKind.u64 (IntKind.u64.wrap (x * 2 ^ s)) (y / 2 ^ (64 - s)) = y / 2 ^ (64 - s) + x % 2 ^ (64 - s) * 2 ^ s := by
  have h := shr_or (x := y) (y := x) (s := 64 - s) hy hx (by omega)
  rw [show 64 - (64 - s) = s by omega] at h
  rw [or_comm_bits, h]
/-- Word j of a row that is shifted to the left. -/
def shlT (X : Nat → Int) (s : Nat) : Nat → Int := fun j => (if j = 0 then 0 else X (j - 1) / 2 ^ (64 - s)) + X j % 2 ^ (64 - s) * 2 ^ s
theorem shl_low {x : Int} {s : Nat} (hx : U64 x) (hs : s < 64) : IntKind.u64.wrap (x * 2 ^ s) = x % 2 ^ (64 - s) * 2 ^ s := by
  have hp : (2:Int) ^ (64 - s) * 2 ^ s = 18446744073709551616 := by rw [← Int.pow_add, show 64 - s + s = 64 by omega]; rfl
  have := Int.mul_emod_mul_of_pos (x) (2 ^ (64 - s)) (show (0:Int) < 2 ^ s from Int.pow_pos (by omega))
  rw [wrap_u64, ← hp, Int.mul_comm x, Int.mul_comm (2 ^ (64 - s)), this, Int.mul_comm]
theorem shlT_wf {X : Nat → Int} {s n : Nat} (hX : WF X n) (hs0 : 0 < s) (hs : s < 64) : WF (shlT X s) n := fun j hj => by
  unfold shlT
  by_cases h0 : j = 0
  · subst h0
    rw [if_pos rfl, ← shl_low (hX 0 hj) hs, wrap_u64]
    unfold U64; omega
  · rw [if_neg h0]
    have h := U64_or (x := X (j - 1)) (y := X j) (s := 64 - s) (hX _ (by omega)) (hX _ hj) (by omega)
    rw [show 64 - (64 - s) = s by omega] at h
    exact h
theorem shlT_val (X : Nat → Int) {s : Nat} (hs : s < 64) : ∀ n, val (shlT X s) (n + 1) + X n / 2 ^ (64 - s) * BB ^ (n + 1) = val X (n + 1) * 2 ^ s
  | 0 => by
    have hp : (2:Int) ^ (64 - s) * 2 ^ s = BB := by rw [← Int.pow_add, show 64 - s + s = 64 by omega]; rfl
    have hd := Int.mul_ediv_add_emod (X 0) (2 ^ (64 - s))
    simp only [val, shlT, if_true, Int.pow_succ, Int.pow_zero]
    grind
  | n + 1 => by
    have ih := shlT_val X hs n
    have hp : (2:Int) ^ (64 - s) * 2 ^ s = BB := by rw [← Int.pow_add, show 64 - s + s = 64 by omega]; rfl
    have hd := Int.mul_ediv_add_emod (X (n + 1)) (2 ^ (64 - s))
    have e : shlT X s (n + 1) = X n / 2 ^ (64 - s) + X (n + 1) % 2 ^ (64 - s) * 2 ^ s := by unfold shlT; rw [if_neg (by omega)]; rfl
    rw [val.eq_2 (shlT X s) (n + 1), val.eq_2 X (n + 1), e, BB_succ (n + 1), Int.add_mul (val X (n + 1)), ← ih]
    grind
/-- Reading x while z is written from above. -/
def Bwd (bx ox bz oz n : Nat) : Prop := bx ≠ bz ∨ ox ≤ oz ∨ oz + n ≤ ox
def LshPost (w : World) (bz oz n : Nat) (X : Nat → Int) (s : Nat) (c : Int) (w' : World) : Prop :=
  ∃ Z, Chg (zRow bz oz n) w w' ∧ Words w' bz oz n Z ∧ WF Z n ∧ U64 c ∧ val Z n + c * BB ^ n = val X n * 2 ^ s
/-- The next word written ahead of those above. -/
theorem Words.cons {w : World} {b o k n : Nat} {T : Nat → Int} {v : Int} (h : ∀ j, k < j → j < n → w.cell? ⟨b, o + j, none⟩ = some (.int .u64 (T j))) (hv : T k = v) (hc : (w.cell? ⟨b, o + k, none⟩).isSome = true) :
    ∀ j, k ≤ j → j < n → (w.setCell ⟨b, o + k, none⟩ (.int .u64 v)).cell? ⟨b, o + j, none⟩ = some (.int .u64 (T j)) := fun j h1 h2 => by
  by_cases e : j = k
  · subst e; rw [hv]; exact World.cell?_setCell_same' _ _ _ hc
  · rw [World.cell?_setCell_other w _ _ _ (by intro h; injection h with _ h2 _; omega)]
    exact h j (by omega) h2
set_option maxHeartbeats 4000000 in
theorem lshVU_g_any (bx ox bz oz n cx cz : Nat) (X : Nat → Int) (s : Nat) (w : World) (hn : n < 4611686018427387904) (hn1 : 0 < n) (hX : Words w bx ox n X) (hXw : WF X n) (hz : Room w bz oz n) (hf : Bwd bx ox bz oz n) (hs0 : 0 < s) (hs : s < 64) :
    Calls Tryz.prog 187 #[.slice (some ⟨bz, oz, none⟩) n cz, .slice (some ⟨bx, ox, none⟩) n cx, .int .u64 s] w (OneWord (LshPost w bz oz n X s)) := by
  have hm1 := and63 s hs
  have hm2 := and63 (64 - s) (by omega)
  have hm3 : ((64 - s : Nat) : Int) = 64 - (s : Int) := by omega
  rw [hm3] at hm2
  have hsb : ((s : Int) == 0) = false := by simp; omega
  have hnb : ((n : Int) == 0) = false := by simp; omega
  obtain ⟨xt, hxt⟩ : ∃ x, X (n - 1) = x := ⟨_, rfl⟩
  have hcx := hX (n - 1) (by omega)
  rw [hxt] at hcx
  have hxtw : Hid (U64 xt) := by rw [← hxt]; exact hXw _ (by omega)
  have Hxt := Lib.hid hxt
  have HX := Lib.hid hX
  have HXw := Lib.hid hXw
  have Hz := Lib.hid hz
  have Hf := Lib.hid hf
  clear hX hXw hz hf hxt
  clear hm3
  go_enter Tryz.func187, Tryz.ntmps187
  go_wp2_with fail
  go_loopw [8] (fun si wr => ∃ k : Nat, si = .int .i64 k ∧ k < n ∧ Hid (Chg (zRow bz oz n) w wr ∧ Chg (zRow bz (oz + (k + 1)) (n - (k + 1))) w wr ∧ ∀ j, k < j → j < n → wr.cell? ⟨bz, oz + j, none⟩ = some (.int .u64 (shlT X s j)))) (fun si _ => (intOf si).toNat)
  case atStart => exact ⟨n - 1, by go_num, by omega, Chg.refl _ _, Chg.refl _ _, fun j h1 h2 => by omega⟩
  case round =>
    obtain ⟨k, rfl, hk, H⟩ := hrel
    have hread : ∀ j, j ≤ k → wr.cell? ⟨bx, ox + j, none⟩ = some (.int .u64 (X j)) := fun j hj => H.out.2.1.cell (HX.out j (by omega)) (by rintro ⟨h1, h2, h3⟩; rcases Hf.out with h | h | h <;> omega)
    have hck := hread k (Nat.le_refl _)
    obtain ⟨⟨zk, hzk0⟩, hzf0⟩ := Hz.out k hk
    have hzk1 := H.out.1.isCell (by rw [hzk0]; rfl)
    obtain ⟨zv, hzk⟩ := Option.isSome_iff_exists.1 hzk1
    have hzf := (H.out.1.frozen hzk0 (oz + k)).trans hzf0
    clear hzk0 hzf0 hzk1
    obtain ⟨xk, hxe⟩ : ∃ x, X k = x := ⟨_, rfl⟩
    rw [hxe] at hck
    have Hxe := Lib.hid hxe
    have hxw : Hid (U64 xk) := by rw [← hxe]; exact HXw.out k hk
    clear hxe
    by_cases h0 : 0 < k
    · have hcy := hread (k - 1) (by omega)
      obtain ⟨yk, hye⟩ : ∃ x, X (k - 1) = x := ⟨_, rfl⟩
      rw [hye] at hcy
      have Hye := Lib.hid hye
      have hyw : Hid (U64 yk) := by rw [← hye]; exact HXw.out (k - 1) (by omega)
      clear hye hread
      go_wp2_with fail
      go_region
      go_wp2
      go_roundw
      case rel =>
        have hv := shl_or hxw.out hyw.out hs0 hs
        refine ⟨k - 1, by go_num, by omega, ?_⟩
        rw [hv]
        have ht : shlT X s k = yk / 2 ^ (64 - s) + xk % 2 ^ (64 - s) * 2 ^ s := by unfold shlT; rw [if_neg (by omega), Hxe.out, Hye.out]
        refine ⟨(H.out.1.setCell bz (oz + k) _ (fun _ => ⟨rfl, by omega, by omega⟩)).drew, ?_, ?_⟩
        · exact ((H.out.2.1.mono (Z' := zRow bz (oz + (k - 1 + 1)) (n - (k - 1 + 1))) (fun _ _ _ ⟨h1, h2, h3⟩ => ⟨h1, by omega, by omega⟩)).setCell bz (oz + k) _ (fun _ => ⟨rfl, by omega, by omega⟩)).drew
        · exact fun j h1 h2 => Words.cons H.out.2.2 ht (by rw [hzk]; rfl) j (by omega) h2
      case measure => simp [intOf]; omega
    · obtain rfl : k = 0 := by omega
      simp only [Nat.add_zero] at hck hzk hzf
      clear hread
      go_wp2_with fail
      go_ret
      have ht : shlT X s 0 = IntKind.u64.wrap (xk * 2 ^ s) := by unfold shlT; rw [if_pos rfl, Hxe.out, shl_low hxw.out hs]; simp
      have hcs := Words.cons (k := 0) H.out.2.2 ht (by rw [Nat.add_zero, hzk]; rfl)
      refine ⟨_, rfl, shlT X s, H.out.1.setCell bz oz _ (fun _ => ⟨rfl, by omega, by omega⟩), fun i hi => hcs i (by omega) hi, shlT_wf HXw.out hs0 hs, U64_shr hxtw.out, ?_⟩
      have := shlT_val X hs (n - 1)
      rw [show n - 1 + 1 = n by omega, Hxt.out] at this
      exact this
theorem lshVU_any (bx ox bz oz n cx cz : Nat) (X : Nat → Int) (s : Nat) (w : World) (hn : n < 4611686018427387904) (hn1 : 0 < n) (hX : Words w bx ox n X) (hXw : WF X n) (hz : Room w bz oz n) (hf : Bwd bx ox bz oz n) (hs0 : 0 < s) (hs : s < 64) :
    Calls Tryz.prog 140 #[.slice (some ⟨bz, oz, none⟩) n cz, .slice (some ⟨bx, ox, none⟩) n cx, .int .u64 s] w (OneWord (LshPost w bz oz n X s)) := by
  have H := Lib.hid (lshVU_g_any bx ox bz oz n cx cz X s w hn hn1 hX hXw hz hf hs0 hs)
  clear hX hXw hz hf
  go_enter Tryz.func140, Tryz.ntmps140
  go_wp2_with fail
  refine H.out.mono ?_
  rintro e w1 ⟨c, rfl, hp⟩
  have Hp := Lib.hid hp
  clear hp
  go_wp2
  go_ret
  exact ⟨c, rfl, Hp.out⟩
end Go.Proofs.YtmgfajamanakcaaGreatDoor
