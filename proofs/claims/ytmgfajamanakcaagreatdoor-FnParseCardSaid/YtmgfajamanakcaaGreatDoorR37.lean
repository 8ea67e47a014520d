/- Part of the proof of FnParse: what the functions that it reaches do, as contracts. Conditions: those that each theorem names. -/
import Derived.Test.YtmgfajamanakcaaGreatDoorR36
import Derived.BigQuiet
import Derived.Test.YtmgfajamanakcaaGreatDoorR02
import Derived.Deep.DeepCutAuto
namespace Go.Proofs.YtmgfajamanakcaaGreatDoor
set_option linter.unusedVariables false
set_option linter.unusedSimpArgs false
open Go Go.RowKit
set_option maxRecDepth 100000
theorem val_inj {X Y : Nat → Int} {n : Nat} (hX : WF X n) (hY : WF Y n) (h : val X n = val Y n) : ∀ i, i < n → X i = Y i := by
  induction n with
  | zero => intro i hi; omega
  | succ n ih =>
    have a := val_lt (hX.le (show n ≤ n + 1 by omega))
    have b := val_lt (hY.le (show n ≤ n + 1 by omega))
    have a0 := val_nonneg (hX.le (show n ≤ n + 1 by omega))
    have b0 := val_nonneg (hY.le (show n ≤ n + 1 by omega))
    have hp := BBn_pos n
    have e1 : val X (n + 1) = val X n + BB ^ n * X n := by rw [val_add, val_one]; rfl
    have e2 : val Y (n + 1) = val Y n + BB ^ n * Y n := by rw [val_add, val_one]; rfl
    rw [e1, e2] at h
    have hq : X n = Y n := by
      have q1 : (val X n + BB ^ n * X n) / BB ^ n = X n := by rw [Int.add_mul_ediv_left _ _ (by omega), Int.ediv_eq_zero_of_lt a0 a, Int.zero_add]
      have q2 : (val Y n + BB ^ n * Y n) / BB ^ n = Y n := by rw [Int.add_mul_ediv_left _ _ (by omega), Int.ediv_eq_zero_of_lt b0 b, Int.zero_add]
      rw [← q1, ← q2, h]
    rw [hq] at h
    intro i hi
    by_cases hin : i = n
    · subst hin; exact hq
    · exact ih (hX.le (by omega)) (hY.le (by omega)) (by omega) i (by omega)
theorem val_same {X Y : Nat → Int} {n m : Nat} (hX : WF X n) (hY : WF Y m) (nX : Norm X n) (nY : Norm Y m) (h : val X n = val Y m) : n = m ∧ ∀ i, i < n → X i = Y i := by
  have e : n = m := by
    rcases Nat.lt_trichotomy n m with g | g | g
    · have := val_lt_of_len hX hY nY g; omega
    · exact g
    · have := val_lt_of_len hY hX nX g; omega
  subst e
  exact ⟨rfl, val_inj hX hY h⟩
theorem rd_at {w : World} {a : Option Addr} {n i : Nat} {X : Nat → Int} (h : Rd w a n X) (hi : i < n) : ∃ b o, a = some ⟨b, o, none⟩ ∧ w.cell? ⟨b, o + i, none⟩ = some (.int .u64 (X i)) := by
  rcases h with h | ⟨b, o, e, hw⟩
  · omega
  · exact ⟨b, o, e, hw i hi⟩
def HWP (w : World) (U : Nat → Int) (un : Nat) (V : Int) (e : Ending) (w' : World) : Prop := ∃ r, e = .returned (.bool r) ∧ (r = true ↔ (Norm U un ∧ val U un = V)) ∧ Chg zNone w w'
set_option maxHeartbeats 2000000 in
theorem haswords_any (ua : Option Addr) (un uc : Nat) (U : Nat → Int) (a : Option Addr) (n c : Nat) (V : Int) (w : World) (hu : Rd w ua un U) (hU : WF U un) (hun : un < 1048576) (h : Si.NatV w a n c V) (hn : n < 1048576) :
    Calls Tryz.prog 49 #[.slice ua un uc, .slice a n c] w (HWP w U un V) := by
  have HWd := Lib.hid (words_any a n c V w h hn)
  have HU := Lib.hid (And.intro hu hU)
  clear hu hU h
  go_enter Tryz.func49, Tryz.ntmps49
  go_wp2_with fail
  refine HWd.out.mono ?_
  rintro e w1 ⟨b, m, d, W, rfl, g1, g2, g3, g4, g5, g6, g7⟩
  have HR : Hid (Rd w1 ua un U) := rd_far HU.out.1 g7 (fun _ _ _ _ _ h => h)
  have HB := Lib.hid (And.intro g2 (And.intro g3 (And.intro g4 (And.intro g5 g7))))
  clear g1 g2 g3 g4 g5 g7
  by_cases hl : un = m
  · subst hl
    have d1 : ((un : Int) != (un : Int)) = false := by simp
    have d1' : (un != un) = false := by simp
    go_wp2_with fail
    go_loopg [6, 16] un (fun gk s6 s16 wc => ∃ i : Nat, s16 = .int .i64 (i : Int) ∧ i + gk = un ∧ Hid ((∀ j, j < i → U j = W j) ∧ ∃ N, wc = w1.drewN N))
    case atStart => exact ⟨0, rfl, by omega, fun j hj => by omega, 0, rfl⟩
    case round =>
      obtain ⟨i, rfl, hk, H⟩ := hrel
      obtain ⟨N, hN⟩ := H.out.2
      subst hN
      by_cases hi : i < un
      · have h1 : decide ((i : Int) < (un : Int)) = true := decide_eq_true (by omega)
        have h2 : (0 : Int) ≤ (i : Int) := by omega
        have h3 : (i : Int) < (un : Int) := by omega
        obtain ⟨ba, oa, rfl, hca⟩ := rd_at HR.out hi
        obtain ⟨bb, ob, rfl, hcb⟩ := rd_at HB.out.1 hi
        obtain ⟨x, hx⟩ : ∃ x, U i = x := ⟨_, rfl⟩
        obtain ⟨y, hy⟩ : ∃ x, W i = x := ⟨_, rfl⟩
        rw [hx] at hca
        rw [hy] at hcb
        have HXY := Lib.hid (And.intro hx hy)
        clear hx hy
        by_cases hxy : x = y
        · have d2 : (x != y) = false := by simp [hxy]
          have HE := Lib.hid hxy
          clear hxy
          go_wp2_with fail
          go_quiet (fail)
          go_wp2
          go_roundg (gk - 1)
          case measure => omega
          case rel =>
            refine ⟨i + 1, by go_num, by omega, fun j hj => ?_, by (try simp only [World.drewN_drewN]); exact ⟨_, rfl⟩⟩
            by_cases e : j = i
            · rw [e, HXY.out.1, HXY.out.2, HE.out]
            · exact H.out.1 j (by omega)
        · have d2 : (x != y) = true := by simp [hxy]
          have HE := Lib.hid hxy
          clear hxy
          go_wp2_with fail
          go_quiet (fail)
          go_wp2
          go_ret
          refine ⟨false, rfl, ⟨(fun h => by cases h), fun hh => ?_⟩, ?_⟩
          · exfalso
            have := (val_same HU.out.2 HB.out.2.1 hh.1 HB.out.2.2.1 (by rw [hh.2, HB.out.2.2.2.1])).2 i hi
            rw [HXY.out.1, HXY.out.2] at this
            exact HE.out this
          · simp only [World.drewN_drewN]
            exact HB.out.2.2.2.2.drewN _
      · have h1 : decide ((i : Int) < (un : Int)) = false := decide_eq_false (by omega)
        obtain rfl : i = un := by omega
        go_wp2
        go_ret
        refine ⟨true, rfl, ⟨fun _ => ⟨?_, ?_⟩, fun _ => rfl⟩, HB.out.2.2.2.2.drewN _⟩
        · rcases HB.out.2.2.1 with h0 | h0
          · exact Or.inl h0
          · rcases Nat.eq_zero_or_pos i with hz | hz
            · exact Or.inl hz
            · right; rw [H.out.1 (i - 1) (by omega)]; exact h0
        · rw [val_congr (X := U) (Y := W) (fun j hj => H.out.1 j hj)]
          exact HB.out.2.2.2.1
  · have d1 : ((un : Int) != (m : Int)) = true := by simp; omega
    have d1' : (un != m) = true := by simp; omega
    have HL := Lib.hid hl
    clear hl
    go_wp2
    go_ret
    refine ⟨false, rfl, ⟨(fun h => by cases h), fun hh => ?_⟩, HB.out.2.2.2.2⟩
    exact absurd (val_same HU.out.2 HB.out.2.1 hh.1 HB.out.2.2.1 (by rw [hh.2, HB.out.2.2.2.1])).1 HL.out
end Go.Proofs.YtmgfajamanakcaaGreatDoor
namespace Go.Proofs.YtmgfajamanakcaaGreatDoor.Si
set_option linter.unusedVariables false
set_option linter.unusedSimpArgs false
open Go Go.RowKit
set_option maxRecDepth 100000
def figV (c b : Int) : Int :=
  let d := if 48 ≤ c ∧ c ≤ 57 then c - 48 else if 97 ≤ c ∧ c ≤ 102 then c - 87 else if 65 ≤ c ∧ c ≤ 70 then c - 55 else -1
  if b ≤ d then -1 else d
set_option maxHeartbeats 4000000 in
theorem figure_any (c b : Int) (w : World) (hc0 : 0 ≤ c) (hc1 : c ≤ 255) :
    Calls Tryz.prog 61 #[.int .u8 c, .int .i64 b] w fun e w' => e = .returned (.int .i64 (figV c b)) ∧ w = w' := by
  have key : ∀ d : Int, (if 48 ≤ c ∧ c ≤ 57 then c - 48 else if 97 ≤ c ∧ c ≤ 102 then c - 87 else if 65 ≤ c ∧ c ≤ 70 then c - 55 else -1) = d → figV c b = if b ≤ d then -1 else d := fun d h => by
    unfold figV
    simp only [h]
  have fin : ∀ {v d : Int}, figV c b = v → d = v → Ending.returned (Value.int .i64 d) = .returned (.int .i64 (figV c b)) := fun h h2 => by rw [h, h2]
  by_cases q1 : 48 ≤ c ∧ c ≤ 57
  · have HK := Lib.hid (key (c - 48) (if_pos q1))
    obtain ⟨q1a, q1b⟩ := q1
    by_cases hb : b ≤ c - 48
    · have hv : Hid (figV c b = -1) := by unfold Hid; rw [HK.out, if_pos hb]
      go_enter Tryz.func61, Tryz.ntmps61
      go_wp2
      go_ret
      exact ⟨fin hv.out (by omega), rfl⟩
    · have hv : Hid (figV c b = c - 48) := by unfold Hid; rw [HK.out, if_neg hb]
      go_enter Tryz.func61, Tryz.ntmps61
      go_wp2
      go_ret
      exact ⟨fin hv.out (by omega), rfl⟩
  · by_cases q2 : 97 ≤ c ∧ c ≤ 102
    · have HK := Lib.hid (key (c - 87) (by rw [if_neg q1, if_pos q2]))
      obtain ⟨q2a, q2b⟩ := q2
      have q3 : 57 < c := by omega
      by_cases hb : b ≤ c - 87
      · have hv : Hid (figV c b = -1) := by unfold Hid; rw [HK.out, if_pos hb]
        clear q1
        go_enter Tryz.func61, Tryz.ntmps61
        go_wp2
        go_ret
        exact ⟨fin hv.out (by omega), rfl⟩
      · have hv : Hid (figV c b = c - 87) := by unfold Hid; rw [HK.out, if_neg hb]
        clear q1
        go_enter Tryz.func61, Tryz.ntmps61
        go_wp2
        go_ret
        exact ⟨fin hv.out (by omega), rfl⟩
    · by_cases q3 : 65 ≤ c ∧ c ≤ 70
      · have HK := Lib.hid (key (c - 55) (by rw [if_neg q1, if_neg q2, if_pos q3]))
        obtain ⟨q3a, q3b⟩ := q3
        have q4 : 57 < c := by omega
        have q5 : c < 97 := by omega
        by_cases hb : b ≤ c - 55
        · have hv : Hid (figV c b = -1) := by unfold Hid; rw [HK.out, if_pos hb]
          clear q1 q2
          go_enter Tryz.func61, Tryz.ntmps61
          go_wp2
          go_ret
          exact ⟨fin hv.out (by omega), rfl⟩
        · have hv : Hid (figV c b = c - 55) := by unfold Hid; rw [HK.out, if_neg hb]
          clear q1 q2
          go_enter Tryz.func61, Tryz.ntmps61
          go_wp2
          go_ret
          exact ⟨fin hv.out (by omega), rfl⟩
      · have hv : Hid (figV c b = -1) := by
          unfold Hid
          rw [key (-1) (by rw [if_neg q1, if_neg q2, if_neg q3])]
          split <;> rfl
        have hsplit : c < 48 ∨ (57 < c ∧ c < 65) ∨ (70 < c ∧ c < 97) ∨ 102 < c := by omega
        clear q1 q2 q3
        by_cases hb : b ≤ -1
        · rcases hsplit with h1 | ⟨h1, h2⟩ | ⟨h1, h2⟩ | h1
          · have a1 : c < 97 := by omega
            have a2 : c < 65 := by omega
            go_enter Tryz.func61, Tryz.ntmps61
            go_wp2
            go_ret
            exact ⟨fin hv.out (by omega), rfl⟩
          · have a1 : 48 ≤ c := by omega
            have a2 : c < 97 := by omega
            go_enter Tryz.func61, Tryz.ntmps61
            go_wp2
            go_ret
            exact ⟨fin hv.out (by omega), rfl⟩
          · have a1 : 57 < c := by omega
            have a2 : 65 ≤ c := by omega
            go_enter Tryz.func61, Tryz.ntmps61
            go_wp2
            go_ret
            exact ⟨fin hv.out (by omega), rfl⟩
          · have a1 : 57 < c := by omega
            have a2 : 97 ≤ c := by omega
            have a3 : 70 < c := by omega
            go_enter Tryz.func61, Tryz.ntmps61
            go_wp2
            go_ret
            exact ⟨fin hv.out (by omega), rfl⟩
        · rcases hsplit with h1 | ⟨h1, h2⟩ | ⟨h1, h2⟩ | h1
          · have a1 : c < 97 := by omega
            have a2 : c < 65 := by omega
            go_enter Tryz.func61, Tryz.ntmps61
            go_wp2
            go_ret
            exact ⟨fin hv.out (by omega), rfl⟩
          · have a1 : 48 ≤ c := by omega
            have a2 : c < 97 := by omega
            go_enter Tryz.func61, Tryz.ntmps61
            go_wp2
            go_ret
            exact ⟨fin hv.out (by omega), rfl⟩
          · have a1 : 57 < c := by omega
            have a2 : 65 ≤ c := by omega
            go_enter Tryz.func61, Tryz.ntmps61
            go_wp2
            go_ret
            exact ⟨fin hv.out (by omega), rfl⟩
          · have a1 : 57 < c := by omega
            have a2 : 97 ≤ c := by omega
            have a3 : 70 < c := by omega
            go_enter Tryz.func61, Tryz.ntmps61
            go_wp2
            go_ret
            exact ⟨fin hv.out (by omega), rfl⟩
def srcV (neg : Bool) (b : Int) (a : Option Addr) (n c : Nat) (bh ex : Int) (two : Bool) : Value := .agg #[.bool neg, .int .i64 b, .slice a n c, .int .i64 bh, .int .i64 ex, .bool two]
def tenthV (b bh ex : Int) (two : Bool) : Int := if b = 10 then (if two then -bh else ex - bh) else 0
def secondV (b bh ex : Int) (two : Bool) : Int := (if two then ex else 0) - (if b = 2 then bh else if b = 8 then 3 * bh else if b = 16 then 4 * bh else 0)
set_option maxHeartbeats 4000000 in
theorem tenth_any (neg : Bool) (b : Int) (a : Option Addr) (n c : Nat) (bh ex : Int) (two : Bool) (w : World) (h1 : 0 ≤ bh) (h2 : bh < 1099511627776) (h3 : -1099511627776 < ex) (h4 : ex < 1099511627776) :
    Calls Tryz.prog 30 #[srcV neg b a n c bh ex two] w fun e w' => e = .returned (.int .i64 (tenthV b bh ex two)) ∧ Chg zNone w w' := by
  have kal : ∀ o, Chg zNone w (w.alloc o) := fun o => (Chg.refl _ _).alloc _
  unfold srcV
  by_cases hb : b = 10
  · subst hb
    cases two with
    | true =>
      have hv : Hid (tenthV 10 bh ex true = -bh) := by unfold Hid tenthV; simp
      go_enter Tryz.func30, Tryz.ntmps30
      go_wp2
      go_ret
      exact ⟨by rw [hv.out]; rfl, kal _⟩
    | false =>
      have hv : Hid (tenthV 10 bh ex false = ex - bh) := by unfold Hid tenthV; simp
      go_enter Tryz.func30, Tryz.ntmps30
      go_wp2
      go_ret
      exact ⟨by rw [hv.out]; rfl, kal _⟩
  · have d0 : (b != 10) = true := by simp [hb]
    have hv : Hid (tenthV b bh ex two = 0) := by unfold Hid tenthV; rw [if_neg hb]
    clear hb
    go_enter Tryz.func30, Tryz.ntmps30
    go_wp2
    go_ret
    exact ⟨by rw [hv.out]; rfl, kal _⟩
set_option maxHeartbeats 4000000 in
theorem second_any (neg : Bool) (b : Int) (a : Option Addr) (n c : Nat) (bh ex : Int) (two : Bool) (w : World) (h1 : 0 ≤ bh) (h2 : bh < 1099511627776) (h3 : -1099511627776 < ex) (h4 : ex < 1099511627776) :
    Calls Tryz.prog 32 #[srcV neg b a n c bh ex two] w fun e w' => e = .returned (.int .i64 (secondV b bh ex two)) ∧ Chg zNone w w' := by
  have kal : ∀ o, Chg zNone w (w.alloc o) := fun o => (Chg.refl _ _).alloc _
  unfold srcV
  by_cases hb2 : b = 2
  · subst hb2
    cases two with
    | true =>
      have hv : Hid (secondV 2 bh ex true = ex - bh) := by unfold Hid secondV; simp
      go_enter Tryz.func32, Tryz.ntmps32
      go_wp2
      go_ret
      exact ⟨congrArg Ending.returned (by rw [hv.out]; try rfl), kal _⟩
    | false =>
      have hv : Hid (secondV 2 bh ex false = -(bh)) := by unfold Hid secondV; simp
      go_enter Tryz.func32, Tryz.ntmps32
      go_wp2
      go_ret
      exact ⟨congrArg Ending.returned (by rw [hv.out]; try rfl), kal _⟩
  · by_cases hb8 : b = 8
    · subst hb8
      cases two with
      | true =>
        have hv : Hid (secondV 8 bh ex true = ex - 3 * bh) := by unfold Hid secondV; simp
        go_enter Tryz.func32, Tryz.ntmps32
        go_wp2
        go_ret
        exact ⟨congrArg Ending.returned (by rw [hv.out]; try rfl), kal _⟩
      | false =>
        have hv : Hid (secondV 8 bh ex false = -(3 * bh)) := by unfold Hid secondV; simp
        go_enter Tryz.func32, Tryz.ntmps32
        go_wp2
        go_ret
        exact ⟨congrArg Ending.returned (by rw [hv.out]; try rfl), kal _⟩
    · by_cases hb16 : b = 16
      · subst hb16
        cases two with
        | true =>
          have hv : Hid (secondV 16 bh ex true = ex - 4 * bh) := by unfold Hid secondV; simp
          go_enter Tryz.func32, Tryz.ntmps32
          go_wp2
          go_ret
          exact ⟨congrArg Ending.returned (by rw [hv.out]; try rfl), kal _⟩
        | false =>
          have hv : Hid (secondV 16 bh ex false = -(4 * bh)) := by unfold Hid secondV; simp
          go_enter Tryz.func32, Tryz.ntmps32
          go_wp2
          go_ret
          exact ⟨congrArg Ending.returned (by rw [hv.out]; try rfl), kal _⟩
      · have d1 : (b == 2) = false := by simp [hb2]
        have d2 : (b == 8) = false := by simp [hb8]
        have d3 : (b == 16) = false := by simp [hb16]
        cases two with
        | true =>
          have hv : Hid (secondV b bh ex true = ex) := by unfold Hid secondV; simp [hb2, hb8, hb16]
          clear hb2 hb8 hb16
          go_enter Tryz.func32, Tryz.ntmps32
          go_wp2
          go_ret
          exact ⟨congrArg Ending.returned (by rw [hv.out]; try rfl), kal _⟩
        | false =>
          have hv : Hid (secondV b bh ex false = 0) := by unfold Hid secondV; simp [hb2, hb8, hb16]
          clear hb2 hb8 hb16
          go_enter Tryz.func32, Tryz.ntmps32
          go_wp2
          go_ret
          exact ⟨congrArg Ending.returned (by rw [hv.out]; try rfl), kal _⟩
def prefV (s : ByteArray) : Int :=
  if 1 < s.size ∧ byteAt s 0 = 48 then (if byteAt s 1 = 98 ∨ byteAt s 1 = 66 then 2 else if byteAt s 1 = 111 ∨ byteAt s 1 = 79 then 8 else if byteAt s 1 = 120 ∨ byteAt s 1 = 88 then 16 else 0) else 0
set_option maxHeartbeats 4000000 in
theorem prefix_any (s : ByteArray) (w : World) (hs : s.size < 1099511627776) :
    Calls Tryz.prog 60 #[.string s] w fun e w' => e = .returned (.int .i64 (prefV s)) ∧ w = w' := by
  by_cases h1 : 1 < s.size
  · have f1 : decide ((s.size : Int) < 2) = false := decide_eq_false (by omega)
    have f2 : (0 : Int) < (s.size : Int) := by omega
    have f3 : (1 : Int) < (s.size : Int) := by omega
    have e0 := byteAt_eq s 0 (by omega)
    have e1 := byteAt_eq s 1 h1
    by_cases c0 : byteAt s 0 = 48
    · have k0 : (byteAt s 0 != 48) = false := by simp [c0]
      by_cases b98 : byteAt s 1 = 98
      · have k98 : (byteAt s 1 == 98) = true := by simp [b98]
        have hv : Hid (prefV s = 2) := by unfold Hid prefV; simp [h1, c0, b98]
        rw [← e0] at k0
        rw [← e1] at k98
        clear c0 e0 e1 b98
        go_enter Tryz.func60, Tryz.ntmps60
        go_wp2
        all_goals go_ret
        all_goals exact ⟨by rw [hv.out]; rfl, rfl⟩
      have k98 : (byteAt s 1 == 98) = false := by simp [b98]
      by_cases b66 : byteAt s 1 = 66
      · have k66 : (byteAt s 1 == 66) = true := by simp [b66]
        have hv : Hid (prefV s = 2) := by unfold Hid prefV; simp [h1, c0, b66, b98]
        rw [← e0] at k0
        rw [← e1] at k98 k66
        clear c0 e0 e1 b98 b66
        go_enter Tryz.func60, Tryz.ntmps60
        go_wp2
        all_goals go_ret
        all_goals exact ⟨by rw [hv.out]; rfl, rfl⟩
      have k66 : (byteAt s 1 == 66) = false := by simp [b66]
      by_cases b111 : byteAt s 1 = 111
      · have k111 : (byteAt s 1 == 111) = true := by simp [b111]
        have hv : Hid (prefV s = 8) := by unfold Hid prefV; simp [h1, c0, b111, b98, b66]
        rw [← e0] at k0
        rw [← e1] at k98 k66 k111
        clear c0 e0 e1 b98 b66 b111
        go_enter Tryz.func60, Tryz.ntmps60
        go_wp2
        all_goals go_ret
        all_goals exact ⟨by rw [hv.out]; rfl, rfl⟩
      have k111 : (byteAt s 1 == 111) = false := by simp [b111]
      by_cases b79 : byteAt s 1 = 79
      · have k79 : (byteAt s 1 == 79) = true := by simp [b79]
        have hv : Hid (prefV s = 8) := by unfold Hid prefV; simp [h1, c0, b79, b98, b66, b111]
        rw [← e0] at k0
        rw [← e1] at k98 k66 k111 k79
        clear c0 e0 e1 b98 b66 b111 b79
        go_enter Tryz.func60, Tryz.ntmps60
        go_wp2
        all_goals go_ret
        all_goals exact ⟨by rw [hv.out]; rfl, rfl⟩
      have k79 : (byteAt s 1 == 79) = false := by simp [b79]
      by_cases b120 : byteAt s 1 = 120
      · have k120 : (byteAt s 1 == 120) = true := by simp [b120]
        have hv : Hid (prefV s = 16) := by unfold Hid prefV; simp [h1, c0, b120, b98, b66, b111, b79]
        rw [← e0] at k0
        rw [← e1] at k98 k66 k111 k79 k120
        clear c0 e0 e1 b98 b66 b111 b79 b120
        go_enter Tryz.func60, Tryz.ntmps60
        go_wp2
        all_goals go_ret
        all_goals exact ⟨by rw [hv.out]; rfl, rfl⟩
      have k120 : (byteAt s 1 == 120) = false := by simp [b120]
      by_cases b88 : byteAt s 1 = 88
      · have k88 : (byteAt s 1 == 88) = true := by simp [b88]
        have hv : Hid (prefV s = 16) := by unfold Hid prefV; simp [h1, c0, b88, b98, b66, b111, b79, b120]
        rw [← e0] at k0
        rw [← e1] at k98 k66 k111 k79 k120 k88
        clear c0 e0 e1 b98 b66 b111 b79 b120 b88
        go_enter Tryz.func60, Tryz.ntmps60
        go_wp2
        all_goals go_ret
        all_goals exact ⟨by rw [hv.out]; rfl, rfl⟩
      have k88 : (byteAt s 1 == 88) = false := by simp [b88]
      have hv : Hid (prefV s = 0) := by unfold Hid prefV; simp [h1, c0, b98, b66, b111, b79, b120, b88]
      rw [← e0] at k0
      rw [← e1] at k98 k66 k111 k79 k120 k88
      clear c0 e0 e1 b98 b66 b111 b79 b120 b88
      go_enter Tryz.func60, Tryz.ntmps60
      go_wp2
      all_goals go_ret
      all_goals exact ⟨by rw [hv.out]; rfl, rfl⟩
    · have k0 : (byteAt s 0 != 48) = true := by simp [c0]
      have hv : Hid (prefV s = 0) := by unfold Hid prefV; rw [if_neg (fun h => c0 h.2)]
      rw [← e0] at k0
      clear c0 e0 e1
      go_enter Tryz.func60, Tryz.ntmps60
      go_wp2
      all_goals go_ret
      all_goals exact ⟨by rw [hv.out]; rfl, rfl⟩
  · have f1 : decide ((s.size : Int) < 2) = true := decide_eq_true (by omega)
    have hv : Hid (prefV s = 0) := by unfold Hid prefV; rw [if_neg (fun h => h1 h.1)]
    go_enter Tryz.func60, Tryz.ntmps60
    go_wp2
    all_goals go_ret
    all_goals exact ⟨by rw [hv.out]; rfl, rfl⟩
structure SrcC (w : World) (p : Nat) (ng : Bool) (b : Int) (a : Option Addr) (n c : Nat) (bh ex : Int) (two : Bool) : Prop where
  ng : w.cell? ⟨p, 0, none⟩ = some (.bool ng)
  b : w.cell? ⟨p, 1, none⟩ = some (.int .i64 b)
  mt : w.cell? ⟨p, 2, none⟩ = some (.slice a n c)
  bh : w.cell? ⟨p, 3, none⟩ = some (.int .i64 bh)
  ex : w.cell? ⟨p, 4, none⟩ = some (.int .i64 ex)
  tw : w.cell? ⟨p, 5, none⟩ = some (.bool two)
  pb : PB w p
theorem SrcC.chg {Z : Zone} {w w' : World} {p : Nat} {ng : Bool} {b : Int} {a : Option Addr} {n c : Nat} {bh ex : Int} {two : Bool} (h : SrcC w p ng b a n c bh ex two) (k : Chg Z w w') (hz : ∀ o, ¬ Z p o) : SrcC w' p ng b a n c bh ex two :=
  ⟨k.cell h.ng (hz _), k.cell h.b (hz _), k.cell h.mt (hz _), k.cell h.bh (hz _), k.cell h.ex (hz _), k.cell h.tw (hz _), h.pb.chg k⟩
theorem newSrc (w : World) (ng : Bool) (b : Int) (a : Option Addr) (n c : Nat) (bh ex : Int) (two : Bool) (ty : TypeId) : SrcC (w.alloc (.cells #[.bool ng, .int .i64 b, .slice a n c, .int .i64 bh, .int .i64 ex, .bool two] ty)) w.heap.size ng b a n c bh ex two :=
  ⟨cell?_alloc_new w _ _ 0 _ rfl, cell?_alloc_new w _ _ 1 _ rfl, cell?_alloc_new w _ _ 2 _ rfl, cell?_alloc_new w _ _ 3 _ rfl, cell?_alloc_new w _ _ 4 _ rfl, cell?_alloc_new w _ _ 5 _ rfl, PB.new w _ _⟩
theorem src_row (w' : World) (b : Nat) (v0 v1 v2 v3 v4 v5 : Value) :
    Chg (zRow b 0 6) w' ((((((w'.setCell ⟨b, 0, none⟩ v0).setCell ⟨b, 1, none⟩ v1).setCell ⟨b, 2, none⟩ v2).setCell ⟨b, 3, none⟩ v3).setCell ⟨b, 4, none⟩ v4).setCell ⟨b, 5, none⟩ v5) :=
  ((((((Chg.refl _ _).setCell b 0 _ (fun _ => ⟨rfl, by omega, by omega⟩)).setCell b 1 _ (fun _ => ⟨rfl, by omega, by omega⟩)).setCell b 2 _ (fun _ => ⟨rfl, by omega, by omega⟩)).setCell b 3 _ (fun _ => ⟨rfl, by omega, by omega⟩)).setCell b 4 _ (fun _ => ⟨rfl, by omega, by omega⟩)).setCell b 5 _ (fun _ => ⟨rfl, by omega, by omega⟩)
theorem SrcC.six {w : World} {p : Nat} {ng : Bool} {b : Int} {a : Option Addr} {n c : Nat} {bh ex : Int} {two : Bool} (h : SrcC w p ng b a n c bh ex two) (ng' : Bool) (b' : Int) (a' : Option Addr) (n' c' : Nat) (bh' ex' : Int) (two' : Bool) :
    SrcC ((((((w.setCell ⟨p, 0, none⟩ (.bool ng')).setCell ⟨p, 1, none⟩ (.int .i64 b')).setCell ⟨p, 2, none⟩ (.slice a' n' c')).setCell ⟨p, 3, none⟩ (.int .i64 bh')).setCell ⟨p, 4, none⟩ (.int .i64 ex')).setCell ⟨p, 5, none⟩ (.bool two')) p ng' b' a' n' c' bh' ex' two' := by
  obtain ⟨h0, h1, h2, h3, h4, h5, hp⟩ := h
  refine ⟨?_, ?_, ?_, ?_, ?_, ?_, hp.chg (src_row w p _ _ _ _ _ _)⟩
  · rw [cs_other (by omega), cs_other (by omega), cs_other (by omega), cs_other (by omega), cs_other (by omega)]; exact cs_same (u := .bool ng) h0
  · rw [cs_other (by omega), cs_other (by omega), cs_other (by omega), cs_other (by omega)]; exact cs_same (u := .int .i64 b) (by rw [cs_other (by omega)]; exact h1)
  · rw [cs_other (by omega), cs_other (by omega), cs_other (by omega)]; exact cs_same (u := .slice a n c) (by rw [cs_other (by omega), cs_other (by omega)]; exact h2)
  · rw [cs_other (by omega), cs_other (by omega)]; exact cs_same (u := .int .i64 bh) (by rw [cs_other (by omega), cs_other (by omega), cs_other (by omega)]; exact h3)
  · rw [cs_other (by omega)]; exact cs_same (u := .int .i64 ex) (by rw [cs_other (by omega), cs_other (by omega), cs_other (by omega), cs_other (by omega)]; exact h4)
  · exact cs_same (u := .bool two) (by rw [cs_other (by omega), cs_other (by omega), cs_other (by omega), cs_other (by omega), cs_other (by omega)]; exact h5)
theorem SrcC.setNg {w : World} {p : Nat} {ng : Bool} {b : Int} {a : Option Addr} {n c : Nat} {bh ex : Int} {two : Bool} (h : SrcC w p ng b a n c bh ex two) (v : Bool) : SrcC (w.setCell ⟨p, 0, none⟩ (.bool v)) p v b a n c bh ex two := by
  obtain ⟨h0, h1, h2, h3, h4, h5, hp⟩ := h
  exact ⟨cs_same h0, by rw [cs_other (by omega)]; exact h1, by rw [cs_other (by omega)]; exact h2, by rw [cs_other (by omega)]; exact h3, by rw [cs_other (by omega)]; exact h4, by rw [cs_other (by omega)]; exact h5, hp.chg (chg_cell _ _ _ _)⟩
theorem SrcC.setB {w : World} {p : Nat} {ng : Bool} {b : Int} {a : Option Addr} {n c : Nat} {bh ex : Int} {two : Bool} (h : SrcC w p ng b a n c bh ex two) (v : Int) : SrcC (w.setCell ⟨p, 1, none⟩ (.int .i64 v)) p ng v a n c bh ex two := by
  obtain ⟨h0, h1, h2, h3, h4, h5, hp⟩ := h
  exact ⟨by rw [cs_other (by omega)]; exact h0, cs_same h1, by rw [cs_other (by omega)]; exact h2, by rw [cs_other (by omega)]; exact h3, by rw [cs_other (by omega)]; exact h4, by rw [cs_other (by omega)]; exact h5, hp.chg (chg_cell _ _ _ _)⟩
theorem SrcC.setMt {w : World} {p : Nat} {ng : Bool} {b : Int} {a : Option Addr} {n c : Nat} {bh ex : Int} {two : Bool} (h : SrcC w p ng b a n c bh ex two) (a' : Option Addr) (n' c' : Nat) : SrcC (w.setCell ⟨p, 2, none⟩ (.slice a' n' c')) p ng b a' n' c' bh ex two := by
  obtain ⟨h0, h1, h2, h3, h4, h5, hp⟩ := h
  exact ⟨by rw [cs_other (by omega)]; exact h0, by rw [cs_other (by omega)]; exact h1, cs_same h2, by rw [cs_other (by omega)]; exact h3, by rw [cs_other (by omega)]; exact h4, by rw [cs_other (by omega)]; exact h5, hp.chg (chg_cell _ _ _ _)⟩
theorem SrcC.setBh {w : World} {p : Nat} {ng : Bool} {b : Int} {a : Option Addr} {n c : Nat} {bh ex : Int} {two : Bool} (h : SrcC w p ng b a n c bh ex two) (v : Int) : SrcC (w.setCell ⟨p, 3, none⟩ (.int .i64 v)) p ng b a n c v ex two := by
  obtain ⟨h0, h1, h2, h3, h4, h5, hp⟩ := h
  exact ⟨by rw [cs_other (by omega)]; exact h0, by rw [cs_other (by omega)]; exact h1, by rw [cs_other (by omega)]; exact h2, cs_same h3, by rw [cs_other (by omega)]; exact h4, by rw [cs_other (by omega)]; exact h5, hp.chg (chg_cell _ _ _ _)⟩
theorem SrcC.setEx {w : World} {p : Nat} {ng : Bool} {b : Int} {a : Option Addr} {n c : Nat} {bh ex : Int} {two : Bool} (h : SrcC w p ng b a n c bh ex two) (v : Int) : SrcC (w.setCell ⟨p, 4, none⟩ (.int .i64 v)) p ng b a n c bh v two := by
  obtain ⟨h0, h1, h2, h3, h4, h5, hp⟩ := h
  exact ⟨by rw [cs_other (by omega)]; exact h0, by rw [cs_other (by omega)]; exact h1, by rw [cs_other (by omega)]; exact h2, by rw [cs_other (by omega)]; exact h3, cs_same h4, by rw [cs_other (by omega)]; exact h5, hp.chg (chg_cell _ _ _ _)⟩
theorem res62 {tmps : Array Value} {w : World} {p : Nat} {ng : Bool} {b : Int} {a : Option Addr} {n c : Nat} {bh ex : Int} {two ok : Bool} (h : SrcC w p ng b a n c bh ex two) (ht : tmps.getD 4 undef = .pointer (some ⟨p, 0, none⟩)) (h5 : tmps.getD 5 undef = .bool ok) :
    (results Tryz.f62 tmps).run Tryz.prog w = .ok (.tuple #[srcV ng b a n c bh ex two, .bool ok]) w := by
  obtain ⟨h0, h1, h2, h3, h4, h5', hp⟩ := h
  have ht' : tmps[4]?.getD undef = .pointer (some ⟨p, 0, none⟩) := by simpa using ht
  have h5'' : tmps[5]?.getD undef = .bool ok := by simpa using h5
  simp [results, Tryz.results62, go_sem, ht', h5'', h0, h1, h2, h3, h4, h5', srcV]
theorem res29 {tmps : Array Value} {w : World} {p : Nat} {ng : Bool} {b : Int} {a : Option Addr} {n c : Nat} {bh ex : Int} {two ok : Bool} (h : SrcC w p ng b a n c bh ex two) (ht : tmps.getD 4 undef = .pointer (some ⟨p, 0, none⟩)) (h5 : tmps.getD 5 undef = .bool ok) :
    (results Tryz.f29 tmps).run Tryz.prog w = .ok (.tuple #[srcV ng b a n c bh ex two, .bool ok]) w := by
  obtain ⟨h0, h1, h2, h3, h4, h5', hp⟩ := h
  have ht' : tmps[4]?.getD undef = .pointer (some ⟨p, 0, none⟩) := by simpa using ht
  have h5'' : tmps[5]?.getD undef = .bool ok := by simpa using h5
  simp [results, Tryz.results29, go_sem, ht', h5'', h0, h1, h2, h3, h4, h5', srcV]
def decV (u : ByteArray) : Nat → Int
  | 0 => 0
  | k + 1 => 10 * decV u k + (byteAt u k - 48)
def isDig (c : Int) : Prop := 48 ≤ c ∧ c ≤ 57
def SignSays (t u : ByteArray) (sg : Bool) : Prop :=
  (0 < t.size ∧ byteAt t 0 = 45 ∧ sg = true ∧ u = t.extract 1 t.size) ∨ (0 < t.size ∧ byteAt t 0 = 43 ∧ sg = false ∧ u = t.extract 1 t.size) ∨ ((0 < t.size → byteAt t 0 ≠ 45 ∧ byteAt t 0 ≠ 43) ∧ sg = false ∧ u = t)
def ExpSays (s : ByteArray) (b ex : Int) (two : Bool) : Prop :=
  ∃ u sg, SignSays (s.extract 1 s.size) u sg ∧ 0 < u.size ∧ u.size ≤ 4 ∧ (∀ j, j < u.size → isDig (byteAt u j)) ∧ (ex = if sg then -decV u u.size else decV u u.size) ∧
    ((two = true ∧ (byteAt s 0 = 112 ∨ byteAt s 0 = 80)) ∨ (two = false ∧ b = 10 ∧ (byteAt s 0 = 101 ∨ byteAt s 0 = 69)))
def ExpPost (w : World) (s : ByteArray) (neg : Bool) (b : Int) (a : Option Addr) (n c : Nat) (bh : Int) (e : Ending) (w' : World) : Prop :=
  ∃ ex two ok, e = .returned (.tuple #[srcV neg b a n c bh ex two, .bool ok]) ∧ -9999 ≤ ex ∧ ex ≤ 9999 ∧ (ok = true → ExpSays s b ex two) ∧ Chg zNone w w'
theorem decV_le (u : ByteArray) : ∀ k, (∀ j, j < k → isDig (byteAt u j)) → 0 ≤ decV u k ∧ decV u k < 10 ^ k := by
  intro k
  induction k with
  | zero => intro _; simp [decV]
  | succ k ih =>
    intro h
    have h1 := ih (fun j hj => h j (by omega))
    have h2 := h k (by omega)
    unfold isDig at h2
    simp only [decV]
    rw [Int.pow_succ]
    omega
end Go.Proofs.YtmgfajamanakcaaGreatDoor.Si
