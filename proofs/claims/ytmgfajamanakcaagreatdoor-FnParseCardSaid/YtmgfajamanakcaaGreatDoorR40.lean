/- Part of the proof of FnParse: what the functions that it reaches do, as contracts. Conditions: those that each theorem names. -/
import Derived.Test.YtmgfajamanakcaaGreatDoorR37
import Derived.Test.YtmgfajamanakcaaGreatDoorR31
namespace Go.Proofs.YtmgfajamanakcaaGreatDoor.Si
set_option linter.unusedVariables false
set_option linter.unusedSimpArgs false
set_option maxRecDepth 100000
structure Tail (s : ByteArray) (p : Nat) (u : ByteArray) : Prop where
  le : p ≤ s.size
  sz : u.size = s.size - p
  at_ : ∀ i, byteAt u i = byteAt s (p + i)
theorem Tail.refl (s : ByteArray) : Tail s 0 s := ⟨Nat.zero_le _, rfl, fun i => by rw [Nat.zero_add]⟩
theorem Tail.trans {s u v : ByteArray} {p q : Nat} (h : Tail s p u) (k : Tail u q v) : Tail s (p + q) v :=
  ⟨by have := h.le; have := h.sz; have := k.le; omega, by have := h.sz; have := k.sz; omega, fun i => by rw [k.at_, h.at_, Nat.add_assoc]⟩
theorem byteAt_extract (s : ByteArray) (k i : Nat) (hk : k ≤ s.size) : byteAt (s.extract k s.size) i = byteAt s (k + i) := by
  unfold byteAt
  congr 2
  rw [List.getD_eq_getElem?_getD, List.getD_eq_getElem?_getD]
  congr 1
  rw [ByteArray.data_extract, Array.getElem?_toList, Array.getElem?_toList, Array.getElem?_extract]
  split
  · rfl
  · rename_i h
    symm
    apply Array.getElem?_eq_none
    have : s.data.size = s.size := rfl
    omega
theorem Tail.cut (s : ByteArray) {k : Nat} (hk : k ≤ s.size) : Tail s k (s.extract k s.size) :=
  ⟨hk, by rw [ByteArray.size_extract]; omega, fun i => byteAt_extract s k i hk⟩
def baseV (base : Int) (u : ByteArray) : Int := if base = 0 then (if 0 < prefV u then prefV u else 10) else base
def preN (base : Int) (u : ByteArray) : Nat := if base = 0 ∧ 0 < prefV u then 2 else 0
def st0 (pk : Int) : SS := ⟨pk, false, true, 0, -1, 0⟩
theorem pre_run {s u : ByteArray} {base : Int} {p : Nat} (hT : Tail s p u) : ∃ pk, (pk = 46 ∨ pk = 48) ∧ lastS base true s p = runS (base == 0) (baseV base u) s (p + preN base u) (st0 pk) ∧ (preS base true s p).b = baseV base u ∧ (preS base true s p).pf ≠ 48 ∧ preN base u ≤ u.size := by
  obtain ⟨h1, h2, h3⟩ := hT
  have a0 : byteAt u 0 = byteAt s p := by rw [h3]; rfl
  have a1 : byteAt u 1 = byteAt s (p + 1) := h3 1
  unfold lastS startS baseV preN
  by_cases hb : base = 0
  · subst hb
    by_cases h48 : p < s.size ∧ byteAt s p = 48
    · by_cases hp1 : p + 1 < s.size
      · by_cases c1 : byteAt s (p + 1) = 98 ∨ byteAt s (p + 1) = 66
        · have e : preS 0 true s p = ⟨2, 98, p + 2, 48, 0⟩ := by unfold preS; simp [h48, hp1, c1]
          have e2 : prefV u = 2 := by unfold prefV; rw [a0, a1]; simp [h48, c1]; omega
          rw [e, e2]; exact ⟨48, Or.inr rfl, rfl, rfl, by simp, by simp; omega⟩
        · by_cases c2 : byteAt s (p + 1) = 111 ∨ byteAt s (p + 1) = 79
          · have e : preS 0 true s p = ⟨8, 111, p + 2, 48, 0⟩ := by unfold preS; simp [h48, hp1, c1, c2]
            have e2 : prefV u = 8 := by unfold prefV; rw [a0, a1]; simp [h48, c1, c2]; omega
            rw [e, e2]; exact ⟨48, Or.inr rfl, rfl, rfl, by simp, by simp; omega⟩
          · by_cases c3 : byteAt s (p + 1) = 120 ∨ byteAt s (p + 1) = 88
            · have e : preS 0 true s p = ⟨16, 120, p + 2, 48, 0⟩ := by unfold preS; simp [h48, hp1, c1, c2, c3]
              have e2 : prefV u = 16 := by unfold prefV; rw [a0, a1]; simp [h48, c1, c2, c3]; omega
              rw [e, e2]; exact ⟨48, Or.inr rfl, rfl, rfl, by simp, by simp; omega⟩
            · have e : preS 0 true s p = ⟨10, 0, p + 1, 48, 1⟩ := by unfold preS; simp [h48, hp1, c1, c2, c3]
              have e2 : prefV u = 0 := by unfold prefV; rw [a0, a1]; simp [c1, c2, c3]
              rw [e, e2]
              refine ⟨46, Or.inl rfl, ?_, rfl, by simp, by simp⟩
              simp only [true_and, Int.lt_irrefl, if_false, Nat.add_zero, if_true]
              exact (runS_step h48.1 (by unfold stepS st0 digOf; rw [h48.2]; rfl)).symm
      · have e : preS 0 true s p = ⟨10, 0, p + 1, 48, 1⟩ := by unfold preS; simp [h48, hp1]
        have e2 : prefV u = 0 := by unfold prefV; rw [if_neg (by omega)]
        rw [e, e2]
        refine ⟨46, Or.inl rfl, ?_, rfl, by simp, by simp⟩
        simp only [true_and, Int.lt_irrefl, if_false, Nat.add_zero, if_true]
        exact (runS_step h48.1 (by unfold stepS st0 digOf; rw [h48.2]; rfl)).symm
    · have e : preS 0 true s p = ⟨10, 0, p, 46, 0⟩ := by unfold preS; simp [h48]
      have e2 : prefV u = 0 := by unfold prefV; rw [if_neg (by rw [a0]; omega)]
      rw [e, e2]
      exact ⟨46, Or.inl rfl, by simp [st0], rfl, by simp, by simp⟩
  · have e : preS base true s p = ⟨base, 0, p, 46, 0⟩ := by unfold preS; simp [hb]
    rw [e]
    exact ⟨46, Or.inl rfl, by simp [st0, hb], by simp [hb], by simp, by simp [hb]⟩
def RunAt (s : ByteArray) (base b : Int) (p : Nat) (pk0 : Int) (k n bh : Nat) (pt : Bool) (V : Int) : Prop :=
  n ≤ k ∧ ∃ pk dp, (pk = 46 ∨ pk = 48) ∧ runS (base == 0) b s p (st0 pk0) = runS (base == 0) b s (p + k) ⟨pk, false, !pt, n, dp, V⟩ ∧ ((pt = false ∧ dp = -1 ∧ bh = 0) ∨ (pt = true ∧ 0 ≤ dp ∧ dp = (n : Int) - bh))
theorem RunAt.start {s : ByteArray} {base b : Int} {p : Nat} {pk0 : Int} (h : pk0 = 46 ∨ pk0 = 48) : RunAt s base b p pk0 0 0 0 false 0 :=
  ⟨Nat.le_refl _, pk0, -1, h, rfl, Or.inl ⟨rfl, rfl, rfl⟩⟩
theorem RunAt.point {s : ByteArray} {base b : Int} {p : Nat} {pk0 : Int} {k n bh : Nat} {V : Int} (h : RunAt s base b p pk0 k n bh false V) (hk : p + k < s.size) (hc : byteAt s (p + k) = 46) : RunAt s base b p pk0 (k + 1) n bh true V := by
  obtain ⟨hnk, pk, dp, h1, h2, h3⟩ := h
  refine ⟨by omega, 46, n, Or.inl rfl, ?_, ?_⟩
  · rw [h2, ← Nat.add_assoc]
    refine runS_step hk ?_
    unfold stepS
    rw [if_pos ⟨hc, rfl⟩]
    rcases h1 with rfl | rfl <;> rfl
  · rcases h3 with ⟨_, _, h4⟩ | ⟨h4, _⟩
    · exact Or.inr ⟨rfl, by omega, by omega⟩
    · cases h4
theorem fig_range {c b : Int} (h : 0 ≤ figV c b) : figV c b < b ∧ digOf c = figV c b ∧ c ≠ 46 ∧ c ≠ 95 ∧ figV c b ≤ 15 := by
  unfold figV digOf at *
  simp only at *
  by_cases h1 : 48 ≤ c ∧ c ≤ 57
  · rw [if_pos h1] at h
    rw [if_pos h1, if_pos h1]
    split at h
    · omega
    · rename_i h2; rw [if_neg h2]; omega
  · by_cases h2 : 97 ≤ c ∧ c ≤ 102
    · have h3 : 97 ≤ c ∧ c ≤ 122 := by omega
      rw [if_neg h1, if_pos h2] at h
      rw [if_neg h1, if_pos h2, if_neg h1, if_pos h3]
      split at h
      · omega
      · rename_i h4; rw [if_neg h4]; omega
    · by_cases h3 : 65 ≤ c ∧ c ≤ 70
      · have h4 : ¬ (97 ≤ c ∧ c ≤ 122) := by omega
        have h5 : 65 ≤ c ∧ c ≤ 90 := by omega
        rw [if_neg h1, if_neg h2, if_pos h3] at h
        rw [if_neg h1, if_neg h2, if_pos h3, if_neg h1, if_neg h4, if_pos h5]
        split at h
        · omega
        · rename_i h4; rw [if_neg h4]; omega
      · rw [if_neg h1, if_neg h2, if_neg h3] at h
        split at h <;> omega
theorem RunAt.figure {s : ByteArray} {base b : Int} {p : Nat} {pk0 : Int} {k n bh : Nat} {pt : Bool} {V : Int} (h : RunAt s base b p pk0 k n bh pt V) (hk : p + k < s.size) (hc : 0 ≤ figV (byteAt s (p + k)) b) :
    RunAt s base b p pk0 (k + 1) (n + 1) (if pt then bh + 1 else bh) pt (V * b + figV (byteAt s (p + k)) b) := by
  obtain ⟨hnk, pk, dp, h1, h2, h3⟩ := h
  obtain ⟨f1, f2, f3, f4, f5⟩ := fig_range hc
  refine ⟨by omega, 48, dp, Or.inr rfl, ?_, ?_⟩
  · rw [h2, ← Nat.add_assoc]
    refine runS_step hk ?_
    unfold stepS
    rw [if_neg (fun hh => f3 hh.1), if_neg (fun hh => f4 hh.1), f2, if_pos f1]
  · rcases h3 with ⟨rfl, h4, h5⟩ | ⟨rfl, h4, h5⟩
    · exact Or.inl ⟨rfl, h4, by simpa using h5⟩
    · exact Or.inr ⟨rfl, h4, by simp; omega⟩
structure ReadSays (s : ByteArray) (base : Int) (neg : Bool) (b V bh ex : Int) (two : Bool) : Prop where
  pos : 0 < s.size
  hneg : (signAt s 0).1 = neg
  hb : (preS base true s (signAt s 0).2).b = b
  hpf : (preS base true s (signAt s 0).2).pf ≠ 48
  run : ∃ (q n : Nat) (pk dp : Int) (fr : Bool), lastS base true s (signAt s 0).2 = (q, ⟨pk, false, fr, n, dp, V⟩) ∧ (pk = 46 ∨ pk = 48) ∧ 0 < n ∧ ((dp = -1 ∧ bh = 0) ∨ (0 ≤ dp ∧ dp = (n : Int) - bh)) ∧ 0 ≤ bh ∧
    ((q = s.size ∧ ex = 0 ∧ two = false) ∨ (q < s.size ∧ ∃ u, Tail s q u ∧ ExpSays u b ex two))
theorem signAt_tail {s u : ByteArray} {sg : Bool} (h : SignSays s u sg) : signAt s 0 = (sg, (signAt s 0).2) ∧ Tail s (signAt s 0).2 u := by
  rcases h with ⟨h0, h1, rfl, rfl⟩ | ⟨h0, h1, rfl, rfl⟩ | ⟨h1, rfl, rfl⟩
  · have e : signAt s 0 = (true, 1) := by unfold signAt; rw [if_pos h1]
    rw [e]; exact ⟨rfl, Tail.cut s h0⟩
  · have e : signAt s 0 = (false, 1) := by unfold signAt; rw [if_neg (by omega), if_pos h1]
    rw [e]; exact ⟨rfl, Tail.cut s h0⟩
  · have e : signAt u 0 = (false, 0) := by
      by_cases h0 : 0 < u.size
      · have := h1 h0
        unfold signAt; rw [if_neg this.1, if_neg this.2]
      · have hz : byteAt u 0 = 0 := by
          unfold byteAt
          rw [List.getD_eq_getElem?_getD, List.getElem?_eq_none (by have : u.data.toList.length = u.size := rfl; omega)]
          rfl
        unfold signAt; rw [hz]; rfl
    rw [e]; exact ⟨rfl, Tail.refl u⟩
theorem RunAt.says {s u : ByteArray} {base : Int} {neg : Bool} {k n bh : Nat} {pk0 : Int} {pt : Bool} {V ex : Int} {two : Bool} (hS : SignSays s u neg) (hbase : base = 0 ∨ base = 2 ∨ base = 8 ∨ base = 10 ∨ base = 16)
    (hP : lastS base true s (signAt s 0).2 = runS (base == 0) (baseV base u) s ((signAt s 0).2 + preN base u) (st0 pk0)) (hb : (preS base true s (signAt s 0).2).b = baseV base u) (hpf : (preS base true s (signAt s 0).2).pf ≠ 48)
    (h : RunAt s base (baseV base u) ((signAt s 0).2 + preN base u) pk0 k n bh pt V) (hn : 0 < n)
    (he : ((signAt s 0).2 + preN base u + k = s.size ∧ ex = 0 ∧ two = false) ∨ ((signAt s 0).2 + preN base u + k < s.size ∧ ∃ e, Tail s ((signAt s 0).2 + preN base u + k) e ∧ ExpSays e (baseV base u) ex two)) :
    ReadSays s base neg (baseV base u) V bh ex two := by
  obtain ⟨hs1, hs2⟩ := signAt_tail hS
  obtain ⟨hnk, pk, dp, h1, h2, h3⟩ := h
  have hb16 : baseV base u ≤ 16 := by
    unfold baseV
    split
    · split
      · unfold prefV
        split
        · split
          · omega
          · split
            · omega
            · split <;> omega
        · omega
      · omega
    · omega
  refine ⟨by omega, by rw [hs1], hb, hpf, (signAt s 0).2 + preN base u + k, n, pk, dp, !pt, ?_, h1, hn, ?_, by omega, he⟩
  · rw [hP, h2]
    rcases he with ⟨e1, _, _⟩ | ⟨e1, e, hT, w, sg, _, _, _, _, _, e2⟩
    · exact runS_end (by omega)
    · refine runS_stop e1 ?_
      have hc : byteAt e 0 = byteAt s ((signAt s 0).2 + preN base u + k) := hT.at_ 0
      rw [hc] at e2
      generalize byteAt s ((signAt s 0).2 + preN base u + k) = c at *
      unfold stepS digOf
      rcases e2 with ⟨_, e3 | e3⟩ | ⟨_, e4, e3 | e3⟩
      · subst e3; simp; omega
      · subst e3; simp; omega
      · subst e3; simp; omega
      · subst e3; simp; omega
  · rcases h3 with ⟨_, h4, h5⟩ | ⟨_, h4, h5⟩
    · exact Or.inl ⟨h4, by omega⟩
    · exact Or.inr ⟨h4, h5⟩
def dl (s : ByteArray) (p : Nat) : Nat → List UInt8
  | 0 => []
  | k + 1 => dl s p k ++ [bAt s (p + k)]
theorem runX_digits {sep : Bool} {s : ByteArray} {p : Nat} (ds : List UInt8) : ∀ k, p + k ≤ s.size → (∀ j, j < k → isDig (byteAt s (p + j))) →
    ∃ pv, (pv = 46 ∨ pv = 48) ∧ (0 < k → pv = 48) ∧ runX sep s p ⟨46, false, false, ds⟩ = runX sep s (p + k) ⟨pv, false, decide (0 < k), ds ++ dl s p k⟩ := by
  intro k
  induction k with
  | zero => intro _ _; exact ⟨46, Or.inl rfl, fun h => absurd h (by omega), by simp [dl]⟩
  | succ k ih =>
    intro h1 h2
    obtain ⟨pv, i1, i2, i3⟩ := ih (by omega) (fun j hj => h2 j (by omega))
    refine ⟨48, Or.inr rfl, fun _ => rfl, ?_⟩
    rw [i3]
    have hd := h2 k (by omega)
    unfold isDig at hd
    rw [runX_step (show p + k < s.size by omega) (st' := ⟨48, false, true, ds ++ dl s p k ++ [bAt s (p + k)]⟩) ?_]
    · simp [dl, Nat.add_assoc]
    · unfold stepE
      rw [bAt_int, if_pos hd]
theorem parseU_snoc (M : Nat) (c : UInt8) : ∀ (l : List UInt8) (acc v : Nat), Lib.parseUintM M acc l = .ok v → v < 1844674407370955162 → 48 ≤ c.toNat ∧ c.toNat ≤ 57 → v * 10 + (c.toNat - 48) ≤ M → Lib.parseUintM M acc (l ++ [c]) = .ok (v * 10 + (c.toNat - 48))
  | [], acc, v, h, h1, h2, h3 => by
    simp only [Lib.parseUintM] at h
    injection h with h
    subst h
    simp only [List.nil_append, Lib.parseUintM]
    rw [if_pos h2, if_neg (by omega), if_neg (by omega)]
  | d :: l, acc, v, h, h1, h2, h3 => by
    simp only [Lib.parseUintM, List.cons_append] at h ⊢
    split at h
    · rename_i g1
      rw [if_pos g1]
      split at h
      · cases h
      · rename_i g2
        rw [if_neg g2]
        split at h
        · cases h
        · rename_i g3
          rw [if_neg g3]
          exact parseU_snoc M c l _ v h h1 h2 h3
    · cases h
theorem dl_value {s u : ByteArray} {p : Nat} (hT : Tail s p u) : ∀ k, k ≤ 4 → (∀ j, j < k → isDig (byteAt u j)) → Lib.parseUintM (2 ^ 64 - 1) 0 (dl s p k) = .ok (decV u k).toNat := by
  intro k
  induction k with
  | zero => intro _ _; rfl
  | succ k ih =>
    intro h1 h2
    have i1 := ih (by omega) (fun j hj => h2 j (by omega))
    obtain ⟨d1, d2⟩ := decV_le u k (fun j hj => h2 j (by omega))
    have hd := h2 k (by omega)
    unfold isDig at hd
    have hb : ((bAt s (p + k)).toNat : Int) = byteAt u k := by rw [bAt_int, hT.at_]
    have h4 : decV u k < 1000 := by
      obtain rfl | rfl | rfl | rfl : k = 0 ∨ k = 1 ∨ k = 2 ∨ k = 3 := by omega
      all_goals omega
    have := parseU_snoc (2 ^ 64 - 1) (bAt s (p + k)) _ _ _ i1 (by omega) (by omega) (by omega)
    simp only [dl]
    rw [this]
    congr 1
    simp only [decV]
    omega
end Go.Proofs.YtmgfajamanakcaaGreatDoor.Si
