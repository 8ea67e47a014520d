/- Part of the proof of FnParse: what the functions that it reaches do, as contracts. Conditions: those that each theorem names. -/
import Derived.Test.YtmgfajamanakcaaGreatDoorR40
import Derived.Test.YtmgfajamanakcaaGreatDoorR48
import Derived.Test.YtmgfajamanakcaaGreatDoorR45
import Derived.Test.YtmgfajamanakcaaGreatDoorR39
import Derived.Test.YtmgfajamanakcaaGreatDoorR43
import Derived.Test.YtmgfajamanakcaaGreatDoorR27
namespace Go.Proofs.YtmgfajamanakcaaGreatDoor.Si
set_option linter.unusedVariables false
set_option linter.unusedSimpArgs false
set_option maxRecDepth 100000
theorem dl_ne {s : ByteArray} {p k : Nat} (hk : 0 < k) : dl s p k ≠ [] := by
  obtain ⟨j, rfl⟩ : ∃ j, k = j + 1 := ⟨k - 1, by omega⟩
  simp [dl]
theorem dl_head {s : ByteArray} {p : Nat} : ∀ k, 0 < k → ∃ r, dl s p k = bAt s p :: r
  | 0, h => absurd h (by omega)
  | 1, _ => ⟨[], by simp [dl]⟩
  | k + 2, _ => by
    obtain ⟨r, hr⟩ := dl_head (s := s) (p := p) (k + 1) (by omega)
    exact ⟨r ++ [bAt s (p + (k + 1))], by rw [dl, hr]; simp⟩
theorem parse_digits {s u : ByteArray} {p : Nat} {sg : Bool} (hT : Tail s p u) (h0 : 0 < u.size) (h4 : u.size ≤ 4) (hd : ∀ j, j < u.size → isDig (byteAt u j)) :
    Lib.parseIntB 64 ((if sg then [45] else []) ++ dl s p u.size) = .ok (if sg then -decV u u.size else decV u u.size) := by
  obtain ⟨d1, d2⟩ := decV_le u u.size hd
  have d3 : decV u u.size < 10000 := by
    obtain h | h | h | h : u.size = 1 ∨ u.size = 2 ∨ u.size = 3 ∨ u.size = 4 := by omega
    all_goals (rw [h] at d2 ⊢; omega)
  have hv := dl_value hT u.size h4 hd
  have hU : Lib.parseUintB 64 (dl s p u.size) = .ok (decV u u.size).toNat := by
    unfold Lib.parseUintB
    rw [if_neg (dl_ne h0)]
    exact hv
  have e64 : (2 : Nat) ^ (64 - 1) = 9223372036854775808 := by decide
  cases sg with
  | true =>
    show Lib.parseIntB 64 (45 :: dl s p u.size) = _
    rw [Lib.parseIntB_minus, hU]
    simp only [Lib.signedC]
    rw [if_neg (by omega)]
    simp only [if_true]
    congr 1
    omega
  | false =>
    simp only [Bool.false_eq_true, if_false, List.nil_append]
    obtain ⟨r, hr⟩ := dl_head (s := s) (p := p) u.size h0
    have hb := hd 0 h0
    unfold isDig at hb
    rw [hT.at_, Nat.add_zero, ← bAt_int] at hb
    rw [hr] at hU ⊢
    rw [Lib.parseIntB_plain _ _ _ (by omega) (by omega), hU]
    simp only [Lib.signlessC]
    rw [if_neg (by omega)]
    congr 1
    omega
theorem expSign_says {s t u : ByteArray} {p : Nat} {sg : Bool} (hT : Tail s p t) (h : SignSays t u sg) : ∃ p', expSign s p = (p', if sg then [45] else []) ∧ Tail s p' u := by
  obtain ⟨h1, h2, h3⟩ := hT
  have e0 : byteAt t 0 = byteAt s p := h3 0
  rcases h with ⟨g0, g1, rfl, rfl⟩ | ⟨g0, g1, rfl, rfl⟩ | ⟨g1, rfl, e⟩
  · refine ⟨p + 1, ?_, Tail.trans ⟨h1, h2, h3⟩ (Tail.cut t g0)⟩
    unfold expSign
    rw [if_pos ⟨by omega, by omega⟩]
    rfl
  · refine ⟨p + 1, ?_, Tail.trans ⟨h1, h2, h3⟩ (Tail.cut t g0)⟩
    unfold expSign
    rw [if_neg (by omega), if_pos ⟨by omega, by omega⟩]
    rfl
  · subst e
    refine ⟨p, ?_, ⟨h1, h2, h3⟩⟩
    unfold expSign
    have hx : ∀ x, (x = 45 ∨ x = 43) → ¬ (p < s.size ∧ byteAt s p = x) := by
      rintro x hx ⟨a, b⟩
      have := g1 (by omega)
      omega
    rw [if_neg (hx 45 (Or.inl rfl)), if_neg (hx 43 (Or.inr rfl))]
    rfl
theorem scanE_says {s e : ByteArray} {q : Nat} {b ex : Int} {two sep : Bool} (hT : Tail s q e) (hq : q < s.size) (h : ExpSays e b ex two) : scanE sep s q = ⟨ex, if two then 2 else 10, 0, s.size⟩ := by
  obtain ⟨u, sg, h1, h2, h3, h4, h5, h6⟩ := h
  have hT1 : Tail s (q + 1) (e.extract 1 e.size) := hT.trans (Tail.cut e (by have := hT.sz; omega))
  obtain ⟨p', e1, e2⟩ := expSign_says hT1 h1
  have hc : byteAt e 0 = byteAt s q := hT.at_ 0
  have hB : expBase (byteAt s q) = some (if two then 2 else 10) := by
    rw [hc] at h6
    unfold expBase
    rcases h6 with ⟨rfl, h6⟩ | ⟨rfl, _, h6⟩
    · rw [if_neg (by omega), if_pos h6]; rfl
    · rw [if_pos h6]; rfl
  obtain ⟨pv, i1, i2, i3⟩ := runX_digits (sep := sep) (s := s) (p := p') (if sg then [45] else []) u.size (by have := e2.sz; have := e2.le; omega) (fun j hj => by rw [← e2.at_]; exact h4 j hj)
  unfold scanE
  rw [if_pos hq, hB]
  simp only
  rw [e1]
  simp only
  rw [i3, i2 h2, runX_end (by have := e2.sz; have := e2.le; omega)]
  simp only [endE, h2, decide_true, Bool.true_eq_false, if_false]
  rw [parse_digits e2 h2 h3 h4, ← h5]
  have : p' + u.size = s.size := by have := e2.sz; have := e2.le; omega
  rw [this]
  rfl
theorem scanE_none {s : ByteArray} {sep : Bool} : scanE sep s s.size = ⟨0, 10, 0, s.size⟩ := by unfold scanE; rw [if_neg (Nat.lt_irrefl _)]
theorem read_parse {s : ByteArray} {base : Int} {neg : Bool} {b V bh ex : Int} {two : Bool} (hb4 : b = 2 ∨ b = 8 ∨ b = 10 ∨ b = 16) (h : ReadSays s base neg b V bh ex two) :
    parseOk s base ∧ (signAt s 0).1 = neg ∧ (scanS base true s (signAt s 0).2).V = V ∧ (scanS base true s (signAt s 0).2).b = b ∧
    x5of (scanS base true s (signAt s 0).2) (scanE (base == 0) s (scanS base true s (signAt s 0).2).p) = tenthV b bh ex two ∧
    x2of (scanS base true s (signAt s 0).2) (scanE (base == 0) s (scanS base true s (signAt s 0).2).p) = secondV b bh ex two + tenthV b bh ex two := by
  obtain ⟨h0, h1, h2, h3, q, n, pk, dp, fr, r1, r2, r3, r4, r5, r6⟩ := h
  have hS : scanS base true s (signAt s 0).2 = ⟨V, b, if 0 ≤ dp then dp - n else n, 0, q⟩ := by
    unfold scanS
    rw [r1]
    simp only
    rw [if_neg (fun hh => h3 hh.2), h2]
    have : sepOf ⟨pk, false, fr, n, dp, V⟩ = false := by
      unfold sepOf
      rcases r2 with rfl | rfl <;> rfl
    rw [this]
    simp only [Bool.false_eq_true, if_false]
    rw [if_neg (show ¬ n = 0 by omega)]
  have hE : scanE (base == 0) s q = ⟨ex, if two then 2 else 10, 0, s.size⟩ ∧ (two = false → b ≠ 10 → ex = 0) := by
    rcases r6 with ⟨rfl, rfl, rfl⟩ | ⟨g1, u, g2, g3⟩
    · exact ⟨scanE_none, fun _ _ => rfl⟩
    · refine ⟨scanE_says g2 g1 g3, fun a c => ?_⟩
      obtain ⟨_, _, _, _, _, _, _, g4⟩ := g3
      rcases g4 with ⟨g4, _⟩ | ⟨_, g4, _⟩
      · rw [a] at g4; cases g4
      · exact absurd g4 c
  obtain ⟨hE, hE2⟩ := hE
  rw [hS]
  simp only
  rw [hE]
  refine ⟨⟨h0, ?_⟩, h1, trivial, trivial, ?_, ?_⟩
  · rw [hS]
    show scanGood _ (scanE (base == 0) s q) ∧ (scanE (base == 0) s q).p = s.size
    rw [hE]
    exact ⟨⟨rfl, rfl⟩, rfl⟩
  · have e : (if 0 ≤ dp then dp - (n : Int) else n) < 0 ∨ bh = 0 := by
      rcases r4 with ⟨a, c⟩ | ⟨a, c⟩
      · exact Or.inr c
      · rw [if_pos a]; omega
    have e2 : bh ≠ 0 → (if 0 ≤ dp then dp - (n : Int) else n) = -bh := by
      intro hh
      rcases r4 with ⟨a, c⟩ | ⟨a, c⟩
      · exact absurd c hh
      · rw [if_pos a]; omega
    have e3 : bh = 0 → ¬ (if 0 ≤ dp then dp - (n : Int) else n) < 0 := by
      intro hh
      rcases r4 with ⟨a, c⟩ | ⟨a, c⟩
      · rw [if_neg (by omega)]; omega
      · rw [if_pos a]; omega
    generalize (if 0 ≤ dp then dp - (n : Int) else n) = cn at *
    unfold x5of tenthV
    simp only
    by_cases hb : b = 10
    · simp only [hb, and_true, if_true]
      by_cases hh : bh = 0
      · rw [if_neg (e3 hh), hh]
        cases two <;> simp
      · rw [if_pos (by omega), e2 hh]
        cases two <;> simp
        omega
    · simp only [hb, and_false, if_false]
      cases two with
      | true => simp
      | false => rw [hE2 rfl hb]; simp
  · have e2 : bh ≠ 0 → (if 0 ≤ dp then dp - (n : Int) else n) = -bh := by
      intro hh
      rcases r4 with ⟨a, c⟩ | ⟨a, c⟩
      · exact absurd c hh
      · rw [if_pos a]; omega
    have e3 : bh = 0 → ¬ (if 0 ≤ dp then dp - (n : Int) else n) < 0 := by
      intro hh
      rcases r4 with ⟨a, c⟩ | ⟨a, c⟩
      · rw [if_neg (by omega)]; omega
      · rw [if_pos a]; omega
    generalize (if 0 ≤ dp then dp - (n : Int) else n) = cn at *
    unfold x2of tenthV secondV digBits
    simp only
    have key : (if cn < 0 then cn * (if b = 8 then 3 else if b = 16 then 4 else 1) else 0) = -(bh * (if b = 8 then 3 else if b = 16 then 4 else 1)) := by
      by_cases hh : bh = 0
      · rw [if_neg (e3 hh), hh]; simp
      · rw [if_pos (by have := e2 hh; omega), e2 hh, Int.neg_mul]
    rw [key]
    have hE2' : two = false → b ≠ 10 → ex = 0 := hE2
    clear key e2 e3 r4 hE hS r1
    rcases hb4 with rfl | rfl | rfl | rfl
    · cases two with
      | true => simp; omega
      | false => rw [hE2' rfl (by decide)]; simp
    · cases two with
      | true => simp; omega
      | false => rw [hE2' rfl (by decide)]; simp; omega
    · cases two with
      | true => simp; omega
      | false => simp; omega
    · cases two with
      | true => simp; omega
      | false => rw [hE2' rfl (by decide)]; simp; omega
theorem second_of {s : ByteArray} {a b c : UInt8} (h : (s.toList == [a, b, c]) = true) : s.size = 3 ∧ byteAt s 1 = (b.toNat : Int) := by
  have h1 := beq_iff_eq.1 h
  rw [ByteArray.toList_eq] at h1
  constructor
  · have : s.data.toList.length = s.size := rfl
    rw [h1] at this
    exact this.symm
  · unfold byteAt
    rw [h1]
    rfl
theorem notInf_bytes {s : ByteArray} (h : ∀ i, i < s.size → byteAt s i ≠ 110) : NotInf s := by
  have key : ∀ a c, (s.toList == [a, 110, c]) = false := by
    intro a c
    cases e : (s.toList == [a, 110, c]) with
    | false => rfl
    | true =>
      obtain ⟨e1, e2⟩ := second_of e
      exact absurd e2 (h 1 (by omega))
  refine ⟨key 73 102, key 105 102, fun h4 _ => ?_⟩
  have key2 : ∀ a c, ((s.extract 1 4).toList == [a, 110, c]) = false := by
    intro a c
    cases e : ((s.extract 1 4).toList == [a, 110, c]) with
    | false => rfl
    | true =>
      obtain ⟨e1, e2⟩ := second_of e
      rw [← h4, byteAt_extract s 1 1 (by omega)] at e2
      exact absurd e2 (h 2 (by omega))
  exact ⟨key2 73 102, key2 105 102⟩
theorem signAt_okB {s : ByteArray} : ∀ i, i < (signAt s 0).2 → okB (byteAt s i) := by
  intro i hi
  unfold signAt at hi
  split at hi
  · rename_i h
    simp only at hi
    obtain rfl : i = 0 := by omega
    rw [h]; unfold okB; omega
  · split at hi
    · rename_i h
      simp only at hi
      obtain rfl : i = 0 := by omega
      rw [h]; unfold okB; omega
    · simp only at hi; omega
theorem notInf_ok {s : ByteArray} {base : Int} (hbase : base = 0 ∨ base = 2 ∨ base = 8 ∨ base = 10 ∨ base = 16) (h : parseOk s base) : NotInf s := by
  obtain ⟨h0, ⟨h1, h2⟩, h3⟩ := h
  have hq := signAt_le h0
  obtain ⟨a1, a2, a3⟩ := scanS_ok (base := base) (frac := true) hq (by omega)
  obtain ⟨b1, b2, b3⟩ := scanE_ok (sep := (base == 0)) a2
  refine notInf_bytes (fun j hj => ?_)
  have hb : okB (byteAt s j) := by
    by_cases c1 : j < (signAt s 0).2
    · exact signAt_okB j c1
    · by_cases c2 : j < (scanS base true s (signAt s 0).2).p
      · exact a3 j (by omega) c2
      · exact b3 j (by omega) (by omega)
  unfold okB at hb
  omega
end Go.Proofs.YtmgfajamanakcaaGreatDoor.Si
namespace Go.Proofs.YtmgfajamanakcaaGreatDoor.Si
set_option linter.unusedVariables false
set_option linter.unusedSimpArgs false
open Go
set_option maxRecDepth 100000
theorem fval_shift {v : FV} {Y : Nat → Int} {neg : Bool} {N D E md : Int} {p : Nat} (h : FVal v Y neg N D E p md) (c d : Nat) : FVal v Y neg (N * 2 ^ c) (D * 2 ^ d) (E - c + d) p md := by
  obtain ⟨h1, m, t, h2, h3⟩ := h
  refine ⟨h1, m, _, h2.shift (c := c) (d := d), ?_⟩
  rw [show t + (c : Int) - d + (E - c + d) = t + E by omega]
  exact h3
theorem fval_meets {v : FV} {Y : Nat → Int} {neg : Bool} {N D E md : Int} {P t : Nat} (hF : FVal v Y neg N D E P md) (hD : 0 < D) (hP : 1 ≤ P) (ht : LowZ (val Y v.n) t) {q k acc : Int} (hq : 0 < q) (hS : SRnd neg N D P md q k acc) :
    ∃ u, LowZ q u ∧ val Y v.n / 2 ^ t = q / 2 ^ u ∧ v.e - 64 * v.n + t = k + E + u ∧ v.ac = acc := by
  obtain ⟨h1, m, tt, h2, h3⟩ := hF
  obtain ⟨m', t', g1, g2⟩ := hS
  obtain ⟨rfl, rfl, hac⟩ := h2.unique hD hP g1
  obtain ⟨u, hu⟩ := lowz_ex hq
  have hdy : DyEq (val Y v.n) (v.e - 64 * v.n) q (k + E) := by
    refine h3.trans ?_
    obtain ⟨a, b, e1, e2⟩ := g2.symm
    exact ⟨a, b, by omega, e2⟩
  obtain ⟨e1, e2⟩ := dy_low hdy ht hu
  exact ⟨u, hu, e1, e2, hac⟩
theorem odd_words {v : FV} {Y U : Nat → Int} {neg : Bool} {N D E md : Int} {P t un : Nat} (hF : FVal v Y neg N D E P md) (hP1 : 1 ≤ P) (hP : P ≤ 512) (ht : LowZ (val Y v.n) t) (h : val U un = val Y v.n / 2 ^ t) (hU : WF U un) (hN : Norm U un) : un < 1048576 := by
  obtain ⟨_, m, tt, h2, h3⟩ := hF
  obtain ⟨r1, r2, _⟩ := h2.range
  have hm : 0 < m := by have : (0 : Int) < 2 ^ (P - 1) := Int.pow_pos (by decide); omega
  obtain ⟨u, hu⟩ := lowz_ex hm
  obtain ⟨e1, _⟩ := dy_low h3 ht hu
  have h4 : m / 2 ^ u ≤ m := Int.ediv_le_self _ (Int.le_of_lt hm)
  have h5 := ipow_le (b := 2) (by decide) (show P + 1 ≤ 64 * 9 by omega)
  rw [Int.pow_succ] at h5
  have := words_few (k := 9) hU hN (by rw [h, e1]; have : (0 : Int) < 2 ^ P := Int.pow_pos (by decide); omega)
  omega
theorem ten_five (k : Nat) : (10 : Int) ^ k = 5 ^ k * 2 ^ k := by rw [← Int.mul_pow]; rfl
theorem meets_pos {v : FV} {Y : Nat → Int} {neg : Bool} {V sec md : Int} {P t T : Nat} (hF : FVal v Y neg (V * 5 ^ T) 1 (sec + T) P md) (hP : 1 ≤ P) (ht : LowZ (val Y v.n) t) {q k acc : Int} (hq : 0 < q) (hS : SRnd neg (V * 10 ^ T) 1 P md q k acc) :
    ∃ u, LowZ q u ∧ val Y v.n / 2 ^ t = q / 2 ^ u ∧ v.e - 64 * v.n + t = sec + k + u ∧ v.ac = acc := by
  have h := fval_shift hF T 0
  rw [Int.pow_zero, Int.mul_one, Int.mul_assoc, ← ten_five] at h
  obtain ⟨u, h1, h2, h3, h4⟩ := fval_meets h (by decide) hP ht hq hS
  exact ⟨u, h1, h2, by omega, h4⟩
theorem bits_of {Q : Int} (h : 0 < Q) : ∃ L, 1 ≤ L ∧ 2 ^ (L - 1) ≤ Q ∧ Q < 2 ^ L := ⟨Lof Q, Lof_spec h⟩
theorem meets_neg {v : FV} {Y : Nat → Int} {neg : Bool} {V sec md : Int} {P t T : Nat} (hF : FVal v Y neg V (5 ^ T) (sec - T) P md) (hP : 1 ≤ P) (hV : 0 < V) (ht : LowZ (val Y v.n) t) {q k acc : Int} (hq : 0 < q) (hS : SRnd neg (aheadQ V (10 ^ T) (P + 1)) 1 P md q k acc) :
    ∃ u, LowZ q u ∧ val Y v.n / 2 ^ t = q / 2 ^ u ∧ v.e - 64 * v.n + t = sec - aheadK V (10 ^ T) (P + 1) - 1 + k + u ∧ v.ac = acc := by
  have h10 : (0 : Int) < 10 ^ T := Int.pow_pos (by decide)
  have hQ := aheadQ_pos (N := P + 1) hV h10
  have hp0 : (0 : Int) < 2 ^ (P + 1 + 1) := Int.pow_pos (by decide)
  obtain ⟨L, l1, l2, l3⟩ := bits_of (show 0 < aheadQ V (10 ^ T) (P + 1) by omega)
  have hL : P + 1 < L := by
    rcases Nat.lt_or_ge (P + 1) L with g | g
    · exact g
    · exfalso
      have := ipow_le (b := 2) (by decide) (show L ≤ P + 1 + 1 by omega)
      omega
  have hR := ahead_round (N := V * 2 ^ aheadK V (10 ^ T) (P + 1)) (D := 10 ^ T) (M := V * 2 ^ aheadK V (10 ^ T) (P + 1) / 10 ^ T) (sb := decide (V * 2 ^ aheadK V (10 ^ T) (P + 1) % 10 ^ T ≠ 0)) h10 rfl (by simp) (by
    show aheadQ V (10 ^ T) (P + 1) = _
    unfold aheadQ
    rw [Int.mul_comm 2]
    by_cases h0 : V * 2 ^ aheadK V (10 ^ T) (P + 1) % 10 ^ T = 0
    · rw [if_pos h0]; simp [h0]
    · rw [if_neg h0]; simp [h0]) hP hL l2 l3 hS
  have hR2 : SRnd neg (V * 2 ^ aheadK V (10 ^ T) (P + 1)) (5 ^ T * 2 ^ T) P md q (k - 1) acc := by rw [← ten_five]; exact hR
  have hR3 := hR2.shift
  obtain ⟨u, h1, h2, h3, h4⟩ := fval_meets hF (Int.pow_pos (by decide)) hP ht hq hR3
  exact ⟨u, h1, h2, by omega, h4⟩
end Go.Proofs.YtmgfajamanakcaaGreatDoor.Si
