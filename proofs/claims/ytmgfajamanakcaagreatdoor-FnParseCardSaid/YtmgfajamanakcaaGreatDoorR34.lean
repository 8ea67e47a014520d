/- Part of the proof of FnParse: what the functions that it reaches do, as contracts. Conditions: those that each theorem names. -/
import Derived.Test.YtmgfajamanakcaaGreatDoorR33
import Derived.Test.YtmgfajamanakcaaGreatDoorR09
import Derived.Test.YtmgfajamanakcaaGreatDoorR52
namespace Go.Proofs.YtmgfajamanakcaaGreatDoor.Si
set_option linter.unusedVariables false
set_option linter.unusedSimpArgs false
open Go Go.RowKit
set_option maxRecDepth 100000
theorem Words.put {w : World} {b o n i : Nat} {Z : Nat → Int} (h : Words w b o n Z) (v : Int) (hi : i < n) : Words (w.setCell ⟨b, o + i, none⟩ (.int .i64 v)) b o n (upd Z i v) := fun j hj => by
  by_cases hji : j = i
  · subst hji; rw [upd_same]; exact World.cell?_setCell_same' _ _ _ (by rw [h j hj]; rfl)
  · rw [upd_other Z v hji]
    have e : (w.setCell ⟨b, o + i, none⟩ (.int .i64 v)).cell? ⟨b, o + j, none⟩ = w.cell? ⟨b, o + j, none⟩ := World.cell?_setCell_other w _ _ _ (by intro h; injection h with _ h2 _; omega)
    rw [e]; exact h j hj
structure Fill (w0 w : World) (b o N : Nat) (Z : Nat → Int) : Prop where
  pb : PB w b
  room : Room w b o N
  ws : Words w b o N Z
  fr : w0.heap.size ≤ b
  chg : Chg zNone w0 w
theorem Fill.put {w0 w : World} {b o N i : Nat} {Z : Nat → Int} (h : Fill w0 w b o N Z) (v : Int) (hi : i < N) : Fill w0 (w.setCell ⟨b, o + i, none⟩ (.int .i64 v)) b o N (upd Z i v) :=
  ⟨h.pb.chg (chg_setCell w b (o + i) _), h.room.setInt b (o + i) v, h.ws.put v hi, h.fr, h.chg.setCell b (o + i) _ (fun hh => by have := h.fr; omega)⟩
theorem Fill.made (w : World) (N : Nat) : Fill w (w.alloc (.cells (madeCells #[.int .i64 0] N) 3)) w.heap.size 0 N (fun _ => 0) :=
  ⟨PB.new w _ _, room_made w N, fun i hi => by
    have h : (madeCells #[Value.int .i64 0] N)[0 + i]? = some (.int .i64 0) := by simp [madeCells, hi, Nat.mod_one]
    exact cell?_alloc_new w _ _ _ _ h, Nat.le_refl _, (Chg.refl _ _).alloc _⟩
theorem df_put {Z : Nat → Int} {i n : Nat} {v : Int} (h : DF Z n) (hv : D16 v) : DF (upd Z i v) n := fun j hj => by
  by_cases hji : j = i
  · subst hji; rw [upd_same]; exact hv
  · rw [upd_other Z v hji]; exact h j hj
structure MulIn (A B : Nat → Int) (i k n2 : Nat) (cy : Int) (Z Z0 : Nat → Int) (N : Nat) : Prop where
  df : DF Z N
  c0 : 0 ≤ cy
  c1 : cy < 65536
  val : vs Z (i + k) + SB ^ (i + k) * cy = vs Z0 (i + k) + SB ^ i * (A i * vs B k)
  keep : ∀ j, i + k ≤ j → Z j = Z0 j
theorem MulIn.step {A B : Nat → Int} {i k n2 : Nat} {cy : Int} {Z Z0 : Nat → Int} {N : Nat} (h : MulIn A B i k n2 cy Z Z0 N) (hik : i + k < N) (ha : D16 (A i)) (hb : D16 (B k)) :
    MulIn A B i (k + 1) n2 ((cy + (Z (i + k) + A i * B k)) / 65536) (upd Z (i + k) ((cy + (Z (i + k) + A i * B k)) % 65536)) Z0 N ∧ 0 ≤ cy + (Z (i + k) + A i * B k) ∧ cy + (Z (i + k) + A i * B k) < 4294967296 := by
  have hz := h.df (i + k) hik
  have p0 := Int.mul_nonneg ha.1 hb.1
  have p1 : A i * B k ≤ 65535 * 65535 := Int.mul_le_mul (by have := ha.2; omega) (by have := hb.2; omega) hb.1 (by omega)
  obtain ⟨h1, h2, h3, h4, h5⟩ := h
  obtain ⟨z0, z1⟩ := hz
  have q0 : 0 ≤ cy + (Z (i + k) + A i * B k) := by omega
  have q1 : cy + (Z (i + k) + A i * B k) < 4294967296 := by omega
  obtain ⟨q, hq⟩ : ∃ q, cy + (Z (i + k) + A i * B k) = q := ⟨_, rfl⟩
  rw [hq] at q0 q1 ⊢
  refine ⟨⟨df_put h1 ⟨by omega, by omega⟩, by omega, by omega, ?_, fun j hj => ?_⟩, q0, q1⟩
  · rw [show i + (k + 1) = (i + k) + 1 by omega, vs_upd, SB_succ]
    simp only [vs]
    have e3 := Int.emod_add_mul_ediv q 65536
    have hk := h5 (i + k) (Nat.le_refl _)
    rw [← hk]
    have e4 : SB ^ (i + k) * SB * (q / 65536) + (q % 65536) * SB ^ (i + k) = SB ^ (i + k) * q := by
      conv => rhs; rw [← e3]
      unfold SB
      grind
    have e5 : SB ^ (i + k) * q = SB ^ (i + k) * cy + Z (i + k) * SB ^ (i + k) + SB ^ i * (A i * (B k * SB ^ k)) := by
      rw [← hq, Int.pow_add]; grind
    have e6 : SB ^ i * (A i * (vs B k + B k * SB ^ k)) = SB ^ i * (A i * vs B k) + SB ^ i * (A i * (B k * SB ^ k)) := by grind
    omega
  · rw [upd_other Z _ (by omega)]
    exact h5 j (by omega)
def InRel (w : World) (A B : Nat → Int) (i n1 n2 b o : Nat) (Z0 : Nat → Int) (gk : Nat) (s8 s26 : Value) (wc : World) : Prop :=
  ∃ (k : Nat) (cy : Int) (Z : Nat → Int), s8 = .int .i64 cy ∧ s26 = .int .i64 (k : Int) ∧ k + gk = n2 ∧ Hid (Fill w wc b o (n1 + n2) Z ∧ MulIn A B i k n2 cy Z Z0 (n1 + n2))
def OutRel (w : World) (A B : Nat → Int) (n1 n2 b o c : Nat) (gk : Nat) (s19 : Value) (wc : World) : Prop :=
  ∃ (i : Nat) (Z : Nat → Int), s19 = .int .i64 (i : Int) ∧ i + gk = n1 ∧ Hid (Fill w wc b o (n1 + n2) Z ∧ DF Z (n1 + n2) ∧ (∀ j, i + n2 ≤ j → Z j = 0) ∧ vs Z (i + n2) = vs A i * vs B n2)
set_option maxHeartbeats 4000000 in
theorem mul_any (a1 a2 : Option Addr) (n1 c1 n2 c2 : Nat) (V1 V2 : Int) (w : World) (h1 : NatV w a1 n1 c1 V1) (h2 : NatV w a2 n2 c2 V2) (hn1 : n1 < 1048576) (hn2 : n2 < 1048576) :
    Calls Tryz.prog 25 #[.slice a1 n1 c1, .slice a2 n2 c2] w (NRes w (V1 * V2)) := by
  obtain ⟨l1, z1, A, r1, f1, t1, rfl⟩ := h1
  obtain ⟨l2, z2, B, r2, f2, t2, rfl⟩ := h2
  have HA := Lib.hid (And.intro r1 f1)
  have HB := Lib.hid (And.intro r2 f2)
  clear r1 f1 t1 r2 f2 t2 z1 z2
  have hmk := fun w => run_make_ints w ((n1 : Int) + n2) ((n1 : Int) + n2) (by omega) (by omega) (by omega)
  have hN : ((n1 : Int) + (n2 : Int)).toNat = n1 + n2 := by omega
  simp only [hN] at hmk
  go_enter Tryz.func25, Tryz.ntmps25
  go_wp2_with fail
  obtain ⟨b, hb⟩ : ∃ b, b = w.heap.size := ⟨_, rfl⟩
  obtain ⟨W1, hW1⟩ : ∃ W, W = w.alloc (.cells (madeCells #[.int .i64 0] (n1 + n2)) 3) := ⟨_, rfl⟩
  have HF1 : Hid (Fill w W1 b 0 (n1 + n2) (fun _ => 0)) := by rw [hb, hW1]; exact Fill.made w _
  rw [← hb, ← hW1]
  clear hb hW1 hmk hN
  go_loopg [6, 7, 8, 9, 10, 19] n1 (fun gk s6 s7 s8 s9 s10 s19 wc => OutRel w A B n1 n2 b 0 (n1 + n2) gk s19 wc)
  case atStart => exact ⟨0, _, rfl, by omega, HF1.out, fun j hj => (show D16 0 from ⟨by omega, by omega⟩), fun j hj => rfl, by rw [vs_zeros (fun j hj => rfl)]; simp [vs]⟩
  case round =>
    obtain ⟨i, Z0, rfl, hk, H⟩ := hrel
    by_cases hi : i < n1
    · have d1 : decide ((i : Int) < (n1 : Int)) = true := decide_eq_true (by omega)
      have d1' : decide (i < n1) = true := decide_eq_true hi
      have i0 : (0 : Int) ≤ (i : Int) := by omega
      have i1 : (i : Int) < (n1 : Int) := by omega
      obtain ⟨ba, oa, rfl, hca⟩ := (HA.out.1.chg H.out.1.chg (fun _ _ _ _ _ h => h)).at hi
      have hax := HA.out.2 i hi
      obtain ⟨x, hx⟩ : ∃ x, A i = x := ⟨_, rfl⟩
      rw [hx] at hca hax
      have Hx := Lib.hid hx
      have Hax := Lib.hid hax
      clear hx hax
      go_wp2_with fail
      go_loopg [8, 9, 10, 26] n2 (fun gk s8 s9 s10 s26 wc => InRel w A B i n1 n2 b 0 Z0 gk s8 s26 wc)
      case atStart => exact ⟨0, 0, Z0, rfl, rfl, by omega, H.out.1, ⟨H.out.2.1, by omega, by omega, by simp [vs], fun j hj => rfl⟩⟩
      case round =>
        obtain ⟨k, cy, Z, rfl, rfl, hkk, HI⟩ := hrel
        by_cases hkn : k < n2
        · have d2 : decide ((k : Int) < (n2 : Int)) = true := decide_eq_true (by omega)
          have d2' : decide (k < n2) = true := decide_eq_true hkn
          have k0 : (0 : Int) ≤ (k : Int) := by omega
          have k1 : (k : Int) < (n2 : Int) := by omega
          obtain ⟨bb, ob, rfl, hcb⟩ := (HB.out.1.chg HI.out.1.chg (fun _ _ _ _ _ h => h)).at hkn
          have hby := HB.out.2 k hkn
          obtain ⟨⟨st, q0, q1⟩⟩ : Nonempty (_ ∧ _ ∧ _) := ⟨HI.out.2.step (by omega) (by rw [Hx.out]; exact Hax.out) hby⟩
          rw [Hx.out] at st q0 q1
          obtain ⟨y, hy⟩ : ∃ y, B k = y := ⟨_, rfl⟩
          obtain ⟨z, hz⟩ : ∃ z, Z (i + k) = z := ⟨_, rfl⟩
          have hcz := HI.out.1.ws (i + k) (by omega)
          rw [Nat.zero_add] at hcz
          have hfz := (HI.out.1.room (i + k) (by omega)).2
          rw [Nat.zero_add] at hfz
          rw [hy] at hcb st q0 q1 hby
          rw [hz] at hcz st q0 q1
          have HS := Lib.hid st
          have p0 := Int.mul_nonneg Hax.out.1 hby.1
          have p1 : x * y ≤ 65535 * 65535 := Int.mul_le_mul (by have := Hax.out.2; omega) (by have := hby.2; omega) hby.1 (by omega)
          obtain ⟨u, hu⟩ : ∃ u, x * y = u := ⟨_, rfl⟩
          rw [hu] at p0 p1 q0 q1 HS
          have hz16 := HI.out.2.df (i + k) (by omega)
          rw [hz] at hz16
          obtain ⟨z0, z1⟩ := hz16
          have c0 := HI.out.2.c0
          have c1 := HI.out.2.c1
          have wu : wrap64 (x * y) = u := by rw [hu]; exact IntWalk.wrap64_in _ (by omega)
          have e1 : (cy + (z + u)).tmod 65536 = (cy + (z + u)) % 65536 := Int.tmod_eq_emod_of_nonneg q0
          have e2 : (cy + (z + u)).tdiv 65536 = (cy + (z + u)) / 65536 := Int.tdiv_eq_ediv_of_nonneg q0
          have ik0 : (0 : Int) ≤ (i : Int) + (k : Int) := by omega
          have ik1 : (i : Int) + (k : Int) < (n1 : Int) + (n2 : Int) := by omega
          have HU := Lib.hid hu
          have HZy := Lib.hid (And.intro hy hz)
          clear hy hz st hby hu
          go_wp2
          go_roundg (gk - 1)
          case measure => omega
          case rel =>
            have hp := HI.out.1.put ((cy + (z + u)) % 65536) (i := i + k) (by omega)
            rw [Nat.zero_add] at hp
            exact ⟨k + 1, _, _, rfl, by go_num, by omega, hp, HS.out⟩
        · have d2 : decide ((k : Int) < (n2 : Int)) = false := decide_eq_false (by omega)
          have d2' : decide (k < n2) = false := decide_eq_false hkn
          obtain rfl : k = n2 := by omega
          have hcz := HI.out.1.ws (i + k) (by omega)
          rw [Nat.zero_add] at hcz
          have hfz := (HI.out.1.room (i + k) (by omega)).2
          rw [Nat.zero_add] at hfz
          have ik0 : (0 : Int) ≤ (i : Int) + (k : Int) := by omega
          have ik1 : (i : Int) + (k : Int) < (n1 : Int) + (k : Int) := by omega
          go_wp2
          go_roundg (n1 - i - 1)
          case measure => omega
          case rel =>
            have hp := HI.out.1.put cy (i := i + k) (by omega)
            rw [Nat.zero_add] at hp
            obtain ⟨g1, g2, g3, g4, g5⟩ := HI.out.2
            obtain ⟨t1, t2, t3, t4⟩ := H.out
            refine ⟨i + 1, _, by go_num, by omega, hp, df_put g1 ⟨g2, g3⟩, fun j hj => ?_, ?_⟩
            · rw [upd_other Z cy (by omega), g5 j (by omega)]
              exact t3 j (by omega)
            · rw [show i + 1 + k = (i + k) + 1 by omega, vs_upd, Int.mul_comm cy, g4, t4]
              simp only [vs]
              rw [Int.add_mul]
              congr 1
              grind
    · have d1 : decide ((i : Int) < (n1 : Int)) = false := decide_eq_false (by omega)
      have d1' : decide (i < n1) = false := decide_eq_false hi
      obtain rfl : i = n1 := by omega
      go_wp2_with fail
      refine (trim_any (some ⟨b, 0, none⟩) (i + n2) (i + n2) Z0 wr (Or.inr ⟨b, 0, rfl, H.out.1.ws⟩) (Nat.le_refl _) (by omega)).mono ?_
      rintro e w4 ⟨j, rfl, j1, j2, j3, rfl⟩
      have HJ := Lib.hid (And.intro j1 (And.intro j2 j3))
      clear j1 j2 j3
      go_wp2
      go_ret
      obtain ⟨j1, j2, j3⟩ := HJ.out
      obtain ⟨t1, t2, t3, t4⟩ := H.out
      refine ⟨some ⟨b, 0, none⟩, j, i + n2, rfl, ⟨j1, Or.inr ⟨b, 0, rfl, t1.pb, t1.room, by omega⟩, Z0, Or.inr ⟨b, 0, rfl, t1.ws.le j1⟩, t2.le j1, j3, ?_⟩, t1.chg⟩
      rw [vs_trim j1 j2, t4]
theorem vs_cmp {X Y : Nat → Int} {n k : Nat} (hX : DF X n) (hY : DF Y n) (hk : k < n) (heq : ∀ i, k < i → i < n → X i = Y i) (hlt : X k < Y k) : vs X n < vs Y n := by
  obtain ⟨d, rfl⟩ : ∃ d, n = (k + 1) + d := ⟨n - (k + 1), by omega⟩
  rw [vs_add X (k + 1) d, vs_add Y (k + 1) d, vs_congr (X := fun i => X (k + 1 + i)) (Y := fun i => Y (k + 1 + i)) (fun i hi => heq (k + 1 + i) (by omega) (by omega))]
  have a2 := vs_lt (hX.le (show k ≤ k + 1 + d by omega))
  have b1 := vs_nonneg (hY.le (show k ≤ k + 1 + d by omega))
  simp only [vs]
  have := Int.mul_le_mul_of_nonneg_right (show X k + 1 ≤ Y k by omega) (Int.le_of_lt (SBn_pos k))
  rw [Int.add_mul] at this
  omega
theorem SB_mono {m n : Nat} (h : m ≤ n) : SB ^ m ≤ SB ^ n := by
  obtain ⟨k, rfl⟩ : ∃ k, n = m + k := ⟨n - m, by omega⟩
  rw [Int.pow_add]
  have h1 := SBn_pos k
  have h2 := Int.mul_le_mul_of_nonneg_left (show 1 ≤ SB ^ k by omega) (Int.le_of_lt (SBn_pos m))
  omega
theorem vs_lt_of_len {X Y : Nat → Int} {n m : Nat} (hX : DF X n) (hY : DF Y m) (hY2 : DN Y m) (h : n < m) : vs X n < vs Y m := by
  have h1 := vs_lt hX
  have h2 := vs_ge hY hY2 (by omega)
  have h3 := SB_mono (show n ≤ m - 1 by omega)
  omega
set_option maxHeartbeats 2000000 in
theorem cmp_any (a1 a2 : Option Addr) (n1 c1 n2 c2 : Nat) (V1 V2 : Int) (w : World) (h1 : NatV w a1 n1 c1 V1) (h2 : NatV w a2 n2 c2 V2) (hn1 : n1 < 1099511627776) (hn2 : n2 < 1099511627776) :
    Calls Tryz.prog 20 #[.slice a1 n1 c1, .slice a2 n2 c2] w fun e w' => e = .returned (.int .i64 (cmpV V1 V2)) ∧ ∃ n, w' = w.drewN n := by
  obtain ⟨l1, z1, X, r1, f1, t1, rfl⟩ := h1
  obtain ⟨l2, z2, Y, r2, f2, t2, rfl⟩ := h2
  rcases Nat.lt_trichotomy n1 n2 with h | h | h
  · have HV := Lib.hid (cmpV_lt (vs_lt_of_len f1 f2 t2 h))
    have h1 : decide (n1 < n2) = true := by simp [h]
    have h2 : decide ((n1 : Int) < (n2 : Int)) = true := decide_eq_true (by omega)
    clear z1 r1 f1 t1 z2 r2 f2 t2
    go_enter Tryz.func20, Tryz.ntmps20
    go_wp2
    go_ret
    exact ⟨by rw [HV.out]; first | done | rfl, 0, rfl⟩
  · subst h
    have HX := Lib.hid (And.intro r1 f1)
    have HY := Lib.hid (And.intro r2 f2)
    have d1 : decide ((n1 : Int) < (n1 : Int)) = false := decide_eq_false (by omega)
    have d1' : decide (n1 < n1) = false := decide_eq_false (by omega)
    clear z1 r1 f1 t1 z2 r2 f2 t2
    go_enter Tryz.func20, Tryz.ntmps20
    go_wp2_with fail
    go_loopw [5] (fun s5 wr => ∃ k : Nat, s5 = .int .i64 ((k : Int) - 1) ∧ k ≤ n1 ∧ Hid ((∀ j, k ≤ j → j < n1 → X j = Y j) ∧ ∃ N, wr = w.drewN N)) (fun s5 _ => (intOf s5 + 1).toNat)
    case atStart => exact ⟨n1, rfl, Nat.le_refl _, fun j h1 h2 => by omega, 0, rfl⟩
    case round =>
      obtain ⟨k, rfl, hk, H⟩ := hrel
      obtain ⟨N, hN⟩ := H.out.2
      subst hN
      by_cases hk0 : k = 0
      · have HV := Lib.hid (cmpV_eq (vs_congr (fun j hj => H.out.1 j (by omega) hj)))
        obtain rfl : k = 0 := hk0
        go_wp2_with fail
        go_ret
        exact ⟨by rw [HV.out]; first | done | rfl, _, rfl⟩
      · have d2 : decide ((0 : Int) ≤ (k : Int) - 1) = true := decide_eq_true (by omega)
        have k0 : (0 : Int) ≤ (k : Int) - 1 := by omega
        have k1 : (k : Int) - 1 < (n1 : Int) := by omega
        obtain ⟨ba, oa, rfl, hca⟩ := HX.out.1.at (show k - 1 < n1 by omega)
        obtain ⟨bb, ob, rfl, hcb⟩ := HY.out.1.at (show k - 1 < n1 by omega)
        obtain ⟨xk, hxe⟩ : ∃ x, X (k - 1) = x := ⟨_, rfl⟩
        obtain ⟨yk, hye⟩ : ∃ x, Y (k - 1) = x := ⟨_, rfl⟩
        rw [hxe] at hca
        rw [hye] at hcb
        have HE := Lib.hid (And.intro hxe hye)
        clear hxe hye
        rcases Int.lt_trichotomy xk yk with hlt | heq | hgt
        · have HV := Lib.hid (cmpV_lt (vs_cmp HX.out.2 HY.out.2 (show k - 1 < n1 by omega) (fun j h1 h2 => H.out.1 j (by omega) h2) (by rw [HE.out.1, HE.out.2]; exact hlt)))
          have d3 : decide (xk < yk) = true := decide_eq_true hlt
          go_wp2_with fail
          go_quiet (fail)
          go_wp2
          go_ret
          exact ⟨by rw [HV.out]; first | done | rfl, by simp only [World.drewN_drewN]; exact ⟨_, rfl⟩⟩
        · have Heq := Lib.hid heq
          have d3 : decide (xk < yk) = false := decide_eq_false (by omega)
          have d4 : decide (yk < xk) = false := decide_eq_false (by omega)
          clear heq
          go_wp2_with fail
          go_quiet (fail)
          go_wp2_with fail
          go_quiet (fail)
          go_wp2
          go_roundw
          case rel =>
            refine ⟨k - 1, by go_num, by omega, fun j h1 h2 => ?_, _, rfl⟩
            by_cases e : j = k - 1
            · rw [e, HE.out.1, HE.out.2, Heq.out]
            · exact H.out.1 j (by omega) h2
          case measure => simp [intOf]; omega
        · have HV := Lib.hid (cmpV_gt (vs_cmp HY.out.2 HX.out.2 (show k - 1 < n1 by omega) (fun j h1 h2 => (H.out.1 j (by omega) h2).symm) (by rw [HE.out.1, HE.out.2]; exact hgt)))
          have d3 : decide (xk < yk) = false := decide_eq_false (by omega)
          have d4 : decide (yk < xk) = true := decide_eq_true hgt
          go_wp2_with fail
          go_quiet (fail)
          go_wp2_with fail
          go_quiet (fail)
          go_wp2
          go_ret
          exact ⟨by rw [HV.out]; first | done | rfl, by simp only [World.drewN_drewN]; exact ⟨_, rfl⟩⟩
  · have HV := Lib.hid (cmpV_gt (vs_lt_of_len f2 f1 t1 h))
    have h1 : decide (n1 < n2) = false := decide_eq_false (by omega)
    have h2 : decide ((n1 : Int) < (n2 : Int)) = false := decide_eq_false (by omega)
    have h3 : decide (n2 < n1) = true := decide_eq_true h
    have h4 : decide ((n2 : Int) < (n1 : Int)) = true := decide_eq_true (by omega)
    clear z1 r1 f1 t1 z2 r2 f2 t2
    go_enter Tryz.func20, Tryz.ntmps20
    go_wp2
    go_ret
    exact ⟨by rw [HV.out]; first | done | rfl, 0, rfl⟩
def SubRel (w : World) (A B : Nat → Int) (n1 n2 : Nat) (gk : Nat) (s5 s6 s12 : Value) (wc : World) : Prop :=
  ∃ (i : Nat) (br : Int) (a : Option Addr) (c : Nat) (X : Nat → Int), s5 = .slice a i c ∧ s6 = .int .i64 br ∧ s12 = .int .i64 (i : Int) ∧ i + gk = n1 ∧ 0 ≤ br ∧ br ≤ 1 ∧ Hid (Out w wc a i c X ∧ DF X i ∧ vs X i + vs (ext B n2) i = vs A i + SB ^ i * br)
set_option maxHeartbeats 4000000 in
theorem sub_any (a1 a2 : Option Addr) (n1 c1 n2 c2 : Nat) (V1 V2 : Int) (w : World) (h1 : NatV w a1 n1 c1 V1) (h2 : NatV w a2 n2 c2 V2) (hV : V2 ≤ V1) (hn1 : n1 < 1073741824) (hn2 : n2 < 1073741824) :
    Calls Tryz.prog 97 #[.slice a1 n1 c1, .slice a2 n2 c2] w (NRes w (V1 - V2)) := by
  obtain ⟨l1, z1, A, r1, f1, t1, rfl⟩ := h1
  obtain ⟨l2, z2, B, r2, f2, t2, rfl⟩ := h2
  have hle : n2 ≤ n1 := by
    rcases Nat.lt_or_ge n1 n2 with h | h
    · have := vs_lt_of_len f1 f2 t2 h; omega
    · exact h
  have HA := Lib.hid (And.intro r1 f1)
  have HB := Lib.hid (And.intro r2 f2)
  have HV := Lib.hid hV
  clear r1 f1 t1 r2 f2 t2 z1 z2 hV
  go_enter Tryz.func97, Tryz.ntmps97
  go_wp2_with fail
  go_loopg [5, 6, 7, 8, 12] n1 (fun gk s5 s6 s7 s8 s12 wc => SubRel w A B n1 n2 gk s5 s6 s12 wc)
  case atStart => exact ⟨0, 0, _, 0, _, rfl, rfl, rfl, by omega, by omega, by omega, Out.empty w w (Chg.refl _ _) (Nat.le_refl _), fun i hi => by omega, by simp [vs]⟩
  case round =>
    obtain ⟨i, br, a, c, X, rfl, rfl, rfl, hk, hc0, hc1, H⟩ := hrel
    by_cases hi : i < n1
    · have HRA : Hid (Rd wr a1 n1 A ∧ Rd wr a2 n2 B) := ⟨HA.out.1.chg H.out.1.chg (fun _ _ _ _ _ h => h), HB.out.1.chg H.out.1.chg (fun _ _ _ _ _ h => h)⟩
      have d0 : decide ((i : Int) < (n1 : Int)) = true := decide_eq_true (by omega)
      have d0' : decide (i < n1) = true := decide_eq_true hi
      have i0 : (0 : Int) ≤ (i : Int) := by omega
      have i1 : (i : Int) < (n1 : Int) := by omega
      obtain ⟨b, o, rfl, hcell⟩ := HRA.out.1.at hi
      have hx := HA.out.2 i hi
      obtain ⟨x, hxx⟩ : ∃ x, A i = x := ⟨_, rfl⟩
      rw [hxx] at hcell hx
      have Hx := Lib.hid hxx
      obtain ⟨hx0, hx1⟩ := hx
      clear hxx
      have e2 := df_ext HB.out.2 i
      obtain ⟨y, hy⟩ : ∃ x, ext B n2 i = x := ⟨_, rfl⟩
      rw [hy] at e2
      obtain ⟨e2a, e2b⟩ := e2
      have HY := Lib.hid hy
      clear hy
      go_upto_if 23 with fail
      go_cut [8] (fun s8 wc => s8 = .int .i64 (x - br - y) ∧ wr = wc)
      case first => as_aux_lemma =>
        by_cases q1 : i < n2
        · have d1 : decide ((i : Int) < (n2 : Int)) = true := decide_eq_true (by omega)
          have d1' : decide (i < n2) = true := decide_eq_true q1
          try first | rw [d1] | rw [d1']
          obtain ⟨b2, o2, rfl, hcell2⟩ := HRA.out.2.at q1
          have hx : B i = y := (ext_lt (A := B) q1).symm.trans HY.out
          rw [hx] at hcell2
          have q2 : (i : Int) < (n2 : Int) := by omega
          clear hx d1
          go_wp2
          go_meet
          exact ⟨rfl, rfl⟩
        · have d1 : decide ((i : Int) < (n2 : Int)) = false := decide_eq_false (by omega)
          have d1' : decide (i < n2) = false := decide_eq_false q1
          try first | rw [d1] | rw [d1']
          have He : Hid (y = 0) := HY.out.symm.trans (ext_ge (A := B) q1)
          go_wp2
          go_meet
          exact ⟨by rw [He.out, Int.sub_zero], rfl⟩
      case rest => as_aux_lemma =>
        obtain ⟨rfl, rfl⟩ := hcut
        obtain ⟨q, hq⟩ : ∃ q, x - br - y = q := ⟨_, rfl⟩
        rw [hq]
        have hq0 : -65536 ≤ q := by omega
        have hq1 : q < 65536 := by omega
        have HQ := Lib.hid hq
        clear hq
        by_cases hneg : q < 0
        · have d3 : decide (q < 0) = true := decide_eq_true hneg
          have HX := Lib.hid (H.out.1.one (q + 65536))
          have x3 := H.out.1.le
          have x4 : i < 1099511627776 := by omega
          go_wp2_with (refine wpList_append_int rfl (.tmp 34) (.tmp 36) rfl a i c X _ _ rfl rfl HX.out.1 HX.out.2.1 x3 x4 HX.out.2.2 ?_; rintro a3 c3 w3 h3; have H3 := Lib.hid h3; clear h3)
          go_roundg (gk - 1)
          case measure => omega
          case rel =>
            obtain ⟨g1, g2, g3⟩ := H.out
            refine ⟨i + 1, 1, a3, c3, _, rfl, rfl, by go_num, by omega, by omega, by omega, g1.snoc H3.out, df_upd g2 ⟨by omega, by omega⟩, ?_⟩
            rw [vs_upd, SB_succ]
            simp only [vs]
            rw [HY.out, Hx.out]
            have e5 := HQ.out
            generalize SB ^ i = S at *
            have e6 : (q + 65536) * S = x * S - S * br - y * S + S * SB := by rw [← e5]; unfold SB; grind
            omega
        · have d3 : decide (q < 0) = false := decide_eq_false hneg
          have HX := Lib.hid (H.out.1.one q)
          have x3 := H.out.1.le
          have x4 : i < 1099511627776 := by omega
          go_wp2_with (refine wpList_append_int rfl (.tmp 34) (.tmp 36) rfl a i c X _ _ rfl rfl HX.out.1 HX.out.2.1 x3 x4 HX.out.2.2 ?_; rintro a3 c3 w3 h3; have H3 := Lib.hid h3; clear h3)
          go_roundg (gk - 1)
          case measure => omega
          case rel =>
            obtain ⟨g1, g2, g3⟩ := H.out
            refine ⟨i + 1, 0, a3, c3, _, rfl, rfl, by go_num, by omega, by omega, by omega, g1.snoc H3.out, df_upd g2 ⟨by omega, by omega⟩, ?_⟩
            rw [vs_upd, SB_succ]
            simp only [vs]
            rw [HY.out, Hx.out]
            have e5 := HQ.out
            generalize SB ^ i = S at *
            have e6 : q * S = x * S - S * br - y * S := by rw [← e5]; grind
            rw [Int.mul_zero]
            omega
    · have d0 : decide ((i : Int) < (n1 : Int)) = false := decide_eq_false (by omega)
      have d0' : decide (i < n1) = false := decide_eq_false hi
      obtain rfl : i = n1 := by omega
      have HO := Lib.hid H.out.1
      go_wp2_with fail
      refine (trim_any a i c X wr HO.out.rd HO.out.le HO.out.z.cap).mono ?_
      rintro e w4 ⟨j, rfl, j1, j2, j3, rfl⟩
      have HJ := Lib.hid (And.intro j1 (And.intro j2 j3))
      clear j1 j2 j3
      go_wp2
      go_ret
      obtain ⟨j1, j2, j3⟩ := HJ.out
      obtain ⟨g1, g2, g3⟩ := H.out
      refine ⟨a, j, c, rfl, ⟨by have := HO.out.le; omega, HO.out.z, _, HO.out.rd.le j1, g2.le j1, j3, ?_⟩, HO.out.chg⟩
      rw [vs_trim j1 j2]
      rw [vs_ext hle] at g3
      have b1 := vs_lt g2
      have b2 := HV.out
      have hb0 : br = 0 ∨ br = 1 := by omega
      rcases hb0 with hb0 | hb0
      · rw [hb0, Int.mul_zero] at g3; omega
      · rw [hb0, Int.mul_one] at g3; omega
theorem vs_one (X : Nat → Int) : vs X 1 = X 0 := by simp [vs]
theorem SB_two : SB = 2 ^ 16 := by decide
theorem SB_pow (j : Nat) : SB ^ j = 2 ^ (16 * j) := by
  rw [SB_two, ← Int.pow_mul]
theorem vs_split (X : Nat → Int) {n j : Nat} (hj : j < n) : vs X n = vs X j + SB ^ j * (X j + SB * vs (fun i => X (j + 1 + i)) (n - j - 1)) := by
  obtain ⟨k, rfl⟩ : ∃ k, n = j + (1 + k) := ⟨n - j - 1, by omega⟩
  rw [vs_add, vs_add, vs_one]
  simp only [Nat.add_zero]
  rw [show j + (1 + k) - j - 1 = k by omega, Int.pow_succ, Int.pow_zero, Int.one_mul]
  rw [vs_congr (X := fun i => X (j + (1 + i))) (Y := fun i => X (j + 1 + i)) (fun i hi => by rw [Nat.add_assoc])]
theorem two_split (i : Nat) : (2 : Int) ^ i = SB ^ (i / 16) * 2 ^ (i % 16) := by
  rw [SB_pow, ← Int.pow_add]
  congr 1; omega
theorem SB_split {t : Nat} (ht : t ≤ 16) : SB = 2 ^ t * 2 ^ (16 - t) := by
  rw [SB_two, ← Int.pow_add]; congr 1; omega
theorem add_mul_div {a b P k : Int} (h0 : 0 ≤ a) (h1 : a < P) : (a + P * b) / (P * k) = b / k := by
  have hP : 0 < P := by omega
  rw [← Int.ediv_ediv_of_nonneg (Int.le_of_lt hP), Int.add_mul_ediv_left _ _ (by omega), Int.ediv_eq_zero_of_lt h0 h1, Int.zero_add]
theorem vs_div_bits {X : Nat → Int} {n i : Nat} (hX : DF X n) (hi : i / 16 < n) : vs X n / 2 ^ i = X (i / 16) / 2 ^ (i % 16) + 2 ^ (16 - i % 16) * vs (fun t => X (i / 16 + 1 + t)) (n - i / 16 - 1) := by
  rw [vs_split X hi, two_split, add_mul_div (vs_nonneg (hX.le (by omega))) (vs_lt (hX.le (by omega)))]
  have e := SB_split (t := i % 16) (by omega)
  have hp : (0 : Int) < 2 ^ (i % 16) := Int.pow_pos (by decide)
  generalize vs (fun t => X (i / 16 + 1 + t)) (n - i / 16 - 1) = R
  rw [e, Int.mul_assoc, Int.add_mul_ediv_left _ _ (by omega)]
theorem vs_bit {X : Nat → Int} {n i : Nat} (hX : DF X n) (hi : i / 16 < n) : X (i / 16) / 2 ^ (i % 16) % 2 = vs X n / 2 ^ i % 2 := by
  rw [vs_div_bits hX hi]
  obtain ⟨k, hk⟩ : ∃ k, 16 - i % 16 = k + 1 := ⟨15 - i % 16, by omega⟩
  rw [hk, Int.pow_succ]
  generalize vs (fun t => X (i / 16 + 1 + t)) (n - i / 16 - 1) = R
  rw [Int.mul_comm ((2 : Int) ^ k) 2, Int.mul_assoc, Int.add_mul_emod_self_left]
set_option maxHeartbeats 2000000 in
theorem bit_any (i : Nat) (w : World) (hi : i < 1073741824) : Calls Tryz.prog 98 #[.int .i64 (i : Int)] w (NRes w (2 ^ i)) := by
  have e1 : (i : Int).tdiv 16 = ((i / 16 : Nat) : Int) := by rw [Int.tdiv_eq_ediv_of_nonneg (by omega)]; omega
  have e2 : (i : Int).tmod 16 = ((i % 16 : Nat) : Int) := by rw [Int.tmod_eq_emod_of_nonneg (by omega)]; omega
  obtain ⟨j, hj⟩ : ∃ j, i / 16 = j := ⟨_, rfl⟩
  obtain ⟨r, hr⟩ : ∃ r, i % 16 = r := ⟨_, rfl⟩
  rw [hj] at e1
  rw [hr] at e2
  have hmk := fun w => run_make_ints w ((j : Int) + 1) ((j : Int) + 1) (by omega) (by omega) (by omega)
  have hN : ((j : Int) + 1).toNat = j + 1 := by omega
  simp only [hN] at hmk
  have j0 : (0 : Int) ≤ (j : Int) := by omega
  have j1 : (j : Int) < (j : Int) + 1 := by omega
  have r0 : ¬ ((r : Int) < 0) := by omega
  have hr16 : r < 16 := by omega
  have hjb : j < 67108865 := by omega
  have H := Lib.hid (And.intro hj hr)
  have p1 : (2 : Int) ^ r ≤ 32768 := by
    have := ipow_le (b := 2) (by decide) (show r ≤ 15 by omega)
    exact this
  have p0 : (0 : Int) < 2 ^ r := Int.pow_pos (by decide)
  have wp : wrap64 (2 ^ r) = 2 ^ r := IntWalk.wrap64_in _ (by omega)
  have wp' : IntKind.i64.wrap (2 ^ r) = 2 ^ r := IntWalk.i64_in _ (by omega)
  have HP := Lib.hid (And.intro p0 p1)
  clear hj hr p0 p1 hN
  go_enter Tryz.func98, Tryz.ntmps98
  go_upto_region 2 with fail
  obtain ⟨b, hb⟩ : ∃ b, b = w.heap.size := ⟨_, rfl⟩
  obtain ⟨W1, hW1⟩ : ∃ W, W = w.alloc (.cells (madeCells #[.int .i64 0] (j + 1)) 3) := ⟨_, rfl⟩
  have hF : Fill w W1 b 0 (j + 1) (fun _ => 0) := by rw [hb, hW1]; exact Fill.made w _
  rw [← hb, ← hW1]
  clear hb hW1 hmk
  have hcz := hF.ws j (by omega)
  rw [Nat.zero_add] at hcz
  have hfz := (hF.room j (by omega)).2
  rw [Nat.zero_add] at hfz
  have HF := Lib.hid hF
  clear hF
  go_wp2
  go_ret
  obtain ⟨p0, p1⟩ := HP.out
  have hp := HF.out.put (2 ^ r) (i := j) (by omega)
  rw [Nat.zero_add] at hp
  refine ⟨_, j + 1, j + 1, rfl, ⟨Nat.le_refl _, Or.inr ⟨_, 0, rfl, hp.pb, hp.room, by omega⟩, _, Or.inr ⟨_, 0, rfl, hp.ws⟩, df_put (fun j hj => (show D16 0 from ⟨by omega, by omega⟩)) ⟨by omega, by omega⟩, Or.inr ?_, ?_⟩, hp.chg⟩
  · rw [Nat.add_sub_cancel, upd_same]; omega
  · rw [vs_upd, vs_zeros (fun j hj => rfl), Int.zero_add, SB_pow, ← Int.pow_add]
    congr 1
    have := H.out
    omega
set_option maxHeartbeats 2000000 in
theorem len_any (a : Option Addr) (n c : Nat) (V : Int) (w : World) (h : NatV w a n c V) (hn : n < 1073741824) :
    Calls Tryz.prog 40 #[.slice a n c] w fun e w' => ∃ L : Nat, e = .returned (.int .i64 (L : Int)) ∧ L ≤ 16 * n ∧ ((V = 0 ∧ L = 0) ∨ (1 ≤ L ∧ 2 ^ (L - 1) ≤ V ∧ V < 2 ^ L)) ∧ w = w' := by
  obtain ⟨l1, z1, A, r1, f1, t1, rfl⟩ := h
  by_cases h0 : n = 0
  · subst h0
    clear z1 r1 f1 t1
    go_enter Tryz.func40, Tryz.ntmps40
    go_wp2
    go_ret
    exact ⟨0, rfl, by omega, Or.inl ⟨rfl, rfl⟩, rfl⟩
  · have ht : A (n - 1) ≠ 0 := by
      rcases t1 with h | h
      · exact absurd h h0
      · exact h
    have d0 : ((n : Int) == 0) = false := by simp [h0]
    have n0 : (0 : Int) ≤ (n : Int) - 1 := by omega
    have n1 : (n : Int) - 1 < (n : Int) := by omega
    obtain ⟨b, o, rfl, hcell⟩ := r1.at (show n - 1 < n by omega)
    have hx := f1 (n - 1) (by omega)
    obtain ⟨x, hxx⟩ : ∃ x, A (n - 1) = x := ⟨_, rfl⟩
    rw [hxx] at hcell hx ht
    have Hx := Lib.hid (And.intro hxx f1)
    obtain ⟨hx0, hx1⟩ := hx
    clear hxx r1 f1 t1 z1
    go_enter Tryz.func40, Tryz.ntmps40
    go_wp2_with fail
    go_loopw [3, 4] (fun s3 s4 wr => ∃ (j : Nat) (T : Int), s3 = .int .i64 (16 * ((n : Int) - 1) + (j : Int)) ∧ s4 = .int .i64 T ∧ 0 ≤ T ∧ T ≤ 65535 ∧ w = wr ∧ j ≤ 16 ∧ Hid (T = x / 2 ^ j ∧ (1 ≤ j → 2 ^ (j - 1) ≤ x))) (fun _ s4 _ => (intOf s4).toNat)
    case atStart => exact ⟨0, x, by go_num, rfl, by omega, by omega, rfl, by omega, by simp, fun h => by omega⟩
    case round =>
      obtain ⟨j, T, rfl, rfl, hT0, hT1, rfl, hj, H⟩ := hrel
      have hp : (0 : Int) < 2 ^ j := Int.pow_pos (by decide)
      by_cases hT : 0 < T
      · have d1 : decide (0 < T) = true := decide_eq_true hT
        have e2 : T.tdiv 2 = T / 2 := Int.tdiv_eq_ediv_of_nonneg hT0
        have hx2 : 2 ^ j ≤ x := by
          have h1 := H.out.1
          rw [h1] at hT
          have := (Int.le_ediv_iff_mul_le hp).1 (show 1 ≤ x / 2 ^ j by omega)
          omega
        have hj16 : j < 16 := by
          rcases Nat.lt_or_ge j 16 with h | h
          · exact h
          · have := ipow_le (b := 2) (by decide) h
            rw [show (2 : Int) ^ 16 = 65536 by decide] at this
            omega
        have HX2 := Lib.hid hx2
        clear hx2 hp
        go_wp2
        go_roundw
        case measure => simp only [intOf]; omega
        case rel =>
          refine ⟨j + 1, T / 2, by go_num, rfl, by omega, by omega, by first | rfl | trivial, by omega, ?_, fun _ => by rw [Nat.add_sub_cancel]; exact HX2.out⟩
          rw [H.out.1, Int.pow_succ, Int.ediv_ediv_of_nonneg (Int.le_of_lt (Int.pow_pos (by decide)))]
      · have d1 : decide (0 < T) = false := decide_eq_false hT
        have hp2 := Lib.hid hp
        clear hp
        go_wp2
        go_ret
        have hT00 : T = 0 := by omega
        have h1 := H.out.1
        rw [hT00] at h1
        have hlt : x < 2 ^ j := by
          rcases Int.lt_or_le x (2 ^ j) with h | h
          · exact h
          · have := (Int.le_ediv_iff_mul_le hp2.out).2 (show 1 * 2 ^ j ≤ x by omega)
            omega
        have hj1 : 1 ≤ j := by
          rcases Nat.lt_or_ge 0 j with h | h
          · exact h
          · obtain rfl : j = 0 := by omega
            rw [Int.pow_zero] at hlt
            omega
        have h2 := H.out.2 hj1
        obtain ⟨m, hm⟩ : ∃ m, n = m + 1 := ⟨n - 1, by omega⟩
        subst hm
        have hA := Hx.out.1
        rw [Nat.add_sub_cancel] at hA
        have b0 := vs_nonneg (Hx.out.2.le (show m ≤ m + 1 by omega))
        have b1 := vs_lt (Hx.out.2.le (show m ≤ m + 1 by omega))
        have hS := SBn_pos m
        refine ⟨16 * m + j, by have he : (((16 * m + j : Nat)) : Int) = 16 * (((m + 1 : Nat) : Int) - 1) + (j : Int) := by push_cast; omega
                               rw [he]; rfl, by omega, Or.inr ⟨by omega, ?_, ?_⟩, rfl⟩
        · simp only [vs]
          rw [hA, show 16 * m + j - 1 = 16 * m + (j - 1) by omega, Int.pow_add, ← SB_pow]
          have := Int.mul_le_mul_of_nonneg_left h2 (Int.le_of_lt hS)
          rw [Int.mul_comm x]
          omega
        · simp only [vs]
          rw [hA, Int.pow_add, ← SB_pow]
          have := Int.mul_le_mul_of_nonneg_left (show x + 1 ≤ 2 ^ j by omega) (Int.le_of_lt hS)
          rw [Int.mul_add, Int.mul_one] at this
          rw [Int.mul_comm x]
          omega
theorem and_one_i64 {y : Int} (h0 : 0 ≤ y) (h1 : y < 65536) : bits BinOp.and IntKind.i64 y 1 = y % 2 := by
  obtain ⟨k, rfl⟩ : ∃ k : Nat, y = (k : Int) := ⟨y.toNat, by omega⟩
  have h1' : (BitVec.ofInt 64 (k : Int)).toNat = k := by
    rw [BitVec.ofInt_natCast, BitVec.toNat_ofNat]; exact Nat.mod_eq_of_lt (by omega)
  have h2 : (BitVec.ofInt 64 (1 : Int)).toNat = 1 := by decide
  show IntKind.i64.wrap ((BitVec.ofInt 64 (k : Int) &&& BitVec.ofInt 64 (1 : Int)).toNat : Int) = _
  rw [BitVec.toNat_and, h1', h2, Nat.and_one_is_mod, IntKind.wrap_i64]
  omega
set_option maxHeartbeats 2000000 in
theorem has_any (a : Option Addr) (n c i : Nat) (V : Int) (w : World) (h : NatV w a n c V) (hn : n < 1073741824) (hi : i < 1073741824) :
    Calls Tryz.prog 92 #[.slice a n c, .int .i64 (i : Int)] w fun e w' => e = .returned (.bool (decide (V / 2 ^ i % 2 = 1))) ∧ w = w' := by
  obtain ⟨l1, z1, A, r1, f1, t1, rfl⟩ := h
  have e1 : (i : Int).tdiv 16 = ((i / 16 : Nat) : Int) := by rw [Int.tdiv_eq_ediv_of_nonneg (by omega)]; omega
  have e2 : (i : Int).tmod 16 = ((i % 16 : Nat) : Int) := by rw [Int.tmod_eq_emod_of_nonneg (by omega)]; omega
  obtain ⟨j, hj⟩ : ∃ j, i / 16 = j := ⟨_, rfl⟩
  obtain ⟨r, hr⟩ : ∃ r, i % 16 = r := ⟨_, rfl⟩
  rw [hj] at e1
  rw [hr] at e2
  have hjb : j < 67108865 := by omega
  have hr16 : r < 16 := by omega
  have j0 : (0 : Int) ≤ (j : Int) := by omega
  by_cases hjn : j < n
  · have d1 : decide ((j : Int) < (n : Int)) = true := decide_eq_true (by omega)
    have d1' : decide (j < n) = true := decide_eq_true hjn
    have j1 : (j : Int) < (n : Int) := by omega
    have hv := vs_bit (i := i) f1 (by omega)
    rw [hj, hr] at hv
    obtain ⟨b, o, rfl, hcell⟩ := r1.at hjn
    have hx := f1 j hjn
    obtain ⟨x, hxx⟩ : ∃ x, A j = x := ⟨_, rfl⟩
    rw [hxx] at hcell hx hv
    obtain ⟨hx0, hx1⟩ := hx
    have r0 : ¬ ((r : Int) < 0) := by omega
    rw [← hv]
    have hp : (0 : Int) < 2 ^ r := Int.pow_pos (by decide)
    have hy0 : 0 ≤ x / 2 ^ r := Int.ediv_nonneg hx0 (Int.le_of_lt hp)
    have hy1 : x / 2 ^ r < 65536 := Int.lt_of_le_of_lt (Int.ediv_le_self _ hx0) hx1
    have HB : Hid ((bits BinOp.and IntKind.i64 (x / 2 ^ r) 1 == 1) = decide (x / 2 ^ r % 2 = 1)) := by
      unfold Hid
      rw [and_one_i64 hy0 hy1]
      rfl
    clear hj hr hxx r1 f1 t1 z1 hv hp hy0 hy1
    go_enter Tryz.func92, Tryz.ntmps92
    go_wp2
    go_ret
    exact ⟨by rw [← HB.out]; rfl, rfl⟩
  · have d1 : decide ((j : Int) < (n : Int)) = false := decide_eq_false (by omega)
    have d1' : decide (j < n) = false := decide_eq_false hjn
    have hv : decide (vs A n / 2 ^ i % 2 = 1) = false := by
      have b0 := vs_nonneg f1
      have b1 := vs_lt f1
      rw [SB_pow] at b1
      have b2 := ipow_le (b := 2) (by decide) (show 16 * n ≤ i by omega)
      rw [Int.ediv_eq_zero_of_lt b0 (by omega)]
      rfl
    rw [hv]
    clear hj hr r1 f1 t1 z1 hv
    go_enter Tryz.func92, Tryz.ntmps92
    go_wp2
    go_ret
    exact ⟨rfl, rfl⟩
end Go.Proofs.YtmgfajamanakcaaGreatDoor.Si
