/- Part of the proof of FnParse: what the functions that it reaches do, as contracts. Conditions: those that each theorem names. -/
import Derived.Test.YtmgfajamanakcaaGreatDoorR02
import Derived.Test.YtmgfajamanakcaaGreatDoorR03
import Derived.Deep.LoopGhost
import Derived.LaidEql
namespace Go.Proofs.YtmgfajamanakcaaGreatDoor
set_option linter.unusedVariables false
set_option linter.unusedSimpArgs false
def okB (c : Int) : Prop := (48 ≤ c ∧ c ≤ 57) ∨ (97 ≤ c ∧ c ≤ 102) ∨ (65 ≤ c ∧ c ≤ 70) ∨ c = 46 ∨ c = 95 ∨ c = 43 ∨ c = 45 ∨ c = 112 ∨ c = 80 ∨ c = 120 ∨ c = 88 ∨ c = 111 ∨ c = 79
theorem okB_step {b0 : Bool} {b : Int} {st st' : SS} {c : Int} (hb : b ≤ 16) (h : stepS b0 b st c = some st') : okB c := by
  unfold stepS at h
  split at h
  · rename_i h1; unfold okB; omega
  · split at h
    · rename_i h1; unfold okB; omega
    · split at h
      · rename_i h1
        unfold digOf at h1
        unfold okB
        split at h1
        · omega
        · split at h1
          · omega
          · split at h1 <;> omega
      · cases h
theorem runF_ok {b0 : Bool} {b : Int} {s : ByteArray} (hb : b ≤ 16) : ∀ (k p : Nat) (st : SS), p ≤ (runF b0 b s k p st).1 ∧ (runF b0 b s k p st).1 ≤ p + k ∧ ∀ i, p ≤ i → i < (runF b0 b s k p st).1 → okB (byteAt s i)
  | 0, p, st => ⟨Nat.le_refl _, Nat.le_refl _, fun i h1 h2 => by simp only [runF] at h2; omega⟩
  | k + 1, p, st => by
    simp only [runF]
    split
    · exact ⟨Nat.le_refl _, by simp, fun i h1 h2 => by simp only at h2; omega⟩
    · rename_i st' hs
      obtain ⟨h1, h2, h3⟩ := runF_ok hb k (p + 1) st' (b0 := b0) (s := s)
      refine ⟨by omega, by omega, fun i h4 h5 => ?_⟩
      by_cases e : i = p
      · subst e; exact okB_step hb hs
      · exact h3 i (by omega) h5
theorem preS_ok {base : Int} {frac : Bool} {s : ByteArray} {p : Nat} (hp : p ≤ s.size) (hb : base ≤ 16) : (preS base frac s p).b ≤ 16 ∧ p ≤ (preS base frac s p).p ∧ (preS base frac s p).p ≤ s.size ∧ ∀ i, p ≤ i → i < (preS base frac s p).p → okB (byteAt s i) := by
  unfold preS
  split
  · exact ⟨hb, Nat.le_refl _, hp, fun i h1 h2 => by simp only at h2; omega⟩
  · split
    · rename_i h48
      have h0 : okB (byteAt s p) := by unfold okB; omega
      have h1 : ∀ i, p ≤ i → i < p + 1 → okB (byteAt s i) := fun i a b => (show i = p by omega) ▸ h0
      have h2 : okB (byteAt s (p + 1)) → ∀ i, p ≤ i → i < p + 2 → okB (byteAt s i) := fun hh i a b => by
        by_cases e : i = p
        · subst e; exact h0
        · obtain rfl : i = p + 1 := by omega
          exact hh
      split
      · split
        · exact ⟨by simp, by simp, by simp only; omega, h2 (by unfold okB; omega)⟩
        · split
          · exact ⟨by simp, by simp, by simp only; omega, h2 (by unfold okB; omega)⟩
          · split
            · exact ⟨by simp, by simp, by simp only; omega, h2 (by unfold okB; omega)⟩
            · split
              · exact ⟨by simp, by simp, by simp only; omega, h1⟩
              · exact ⟨by simp, by simp, by simp only; omega, h1⟩
      · exact ⟨by simp, by simp, by simp only; omega, h1⟩
    · exact ⟨by simp, Nat.le_refl _, hp, fun i h1 h2 => by simp only at h2; omega⟩
theorem lastS_ok {base : Int} {frac : Bool} {s : ByteArray} {p : Nat} (hp : p ≤ s.size) (hb : base ≤ 16) : p ≤ (lastS base frac s p).1 ∧ (lastS base frac s p).1 ≤ s.size ∧ ∀ i, p ≤ i → i < (lastS base frac s p).1 → okB (byteAt s i) := by
  obtain ⟨h1, h2, h3, h4⟩ := preS_ok (frac := frac) hp hb
  unfold lastS runS
  obtain ⟨g1, g2, g3⟩ := runF_ok h1 (b0 := base == 0) (s := s) (s.size - (preS base frac s p).p) (preS base frac s p).p (startS base frac s p)
  refine ⟨by omega, by omega, fun i a b => ?_⟩
  by_cases e : i < (preS base frac s p).p
  · exact h4 i a e
  · exact g3 i (by omega) b
theorem scanS_p {base : Int} {frac : Bool} {s : ByteArray} {p : Nat} : (scanS base frac s p).p = (lastS base frac s p).1 := by
  unfold scanS
  simp only
  split <;> rfl
theorem scanS_ok {base : Int} {frac : Bool} {s : ByteArray} {p : Nat} (hp : p ≤ s.size) (hb : base ≤ 16) : p ≤ (scanS base frac s p).p ∧ (scanS base frac s p).p ≤ s.size ∧ ∀ i, p ≤ i → i < (scanS base frac s p).p → okB (byteAt s i) := by
  rw [scanS_p]; exact lastS_ok hp hb
end Go.Proofs.YtmgfajamanakcaaGreatDoor
namespace Go.Proofs.YtmgfajamanakcaaGreatDoor
set_option linter.unusedVariables false
set_option linter.unusedSimpArgs false
open Go.RowKit
def Fresh (w0 : World) (a : Option Addr) : Prop := a = none ∨ ∃ b o, a = some ⟨b, o, none⟩ ∧ w0.heap.size ≤ b
theorem Fresh.home {w0 w : World} {az a : Option Addr} {zc c : Nat} (h : Fresh w0 az) (k : Home w az zc a c) (hw : w0.heap.size ≤ w.heap.size) : Fresh w0 a := by
  rcases k with ⟨e, _⟩ | ⟨b, o, e, hb⟩
  · rw [e]; exact h
  · exact Or.inr ⟨b, o, e, by omega⟩
theorem Fresh.zone {w0 : World} {a : Option Addr} {c : Nat} (h : Fresh w0 a) : ∀ b o, b < w0.heap.size → ¬ zAddr a c b o := by
  rintro b o hb ⟨p, e, _, _⟩
  rcases h with h | ⟨b', o', h, h2⟩
  · rw [h] at e; cases e
  · rw [h] at e; injection e with e; injection e with e; omega
def Grp (w0 w : World) (bn : Int) (a : Option Addr) (n c N : Nat) (V : Int) : Prop :=
  n ≤ c ∧ n ≤ N ∧ ZOK w a c ∧ Fresh w0 a ∧ ∃ X, Rd w a n X ∧ WF X n ∧ ((bn = 0 ∧ val (fun i => X (n - 1 - i)) n = V) ∨ (bn ≠ 0 ∧ val X n = V ∧ Norm X n))
theorem Rd.chg {Z : Zone} {w w' : World} {a : Option Addr} {n c : Nat} {X : Nat → Int} (h : Rd w a n X) (k : Chg Z w w') (hn : n ≤ c) (hz : ∀ b o, zAddr a c b o → ¬ Z b o) : Rd w' a n X := by
  rcases h with h | ⟨b, o, rfl, h⟩
  · exact Or.inl h
  · exact Or.inr ⟨b, o, rfl, h.chg k (fun i hi => hz b (o + i) ⟨o, rfl, by omega, by omega⟩)⟩
theorem Grp.chg {Z : Zone} {w0 w w' : World} {bn : Int} {a : Option Addr} {n c N : Nat} {V : Int} (h : Grp w0 w bn a n c N V) (k : Chg Z w w') (hz : ∀ b o, zAddr a c b o → ¬ Z b o) : Grp w0 w' bn a n c N V := by
  obtain ⟨h1, h2, h3, h4, X, h5, h6, h7⟩ := h
  exact ⟨h1, h2, h3.chg k hz, h4, X, h5.chg k h1 hz, h6, h7⟩
theorem rd_apart {w : World} {br i : Nat} {s : ByteArray} {a : Option Addr} {c : Nat} (h : RdAt w br s i) (hz : ZOK w a c) : ∀ b o, zAddr a c b o → ¬ (b = br ∧ o < 3) := by
  rintro b o ⟨p, rfl, h1, h2⟩ ⟨rfl, h4⟩
  rcases hz with ⟨e, _⟩ | ⟨b', o', e, _, hr, _⟩
  · cases e
  · injection e with e; injection e with e1 e2; subst e1; subst e2
    obtain ⟨⟨x, hx⟩, _⟩ := hr (o - p) (by omega)
    rw [show p + (o - p) = o by omega] at hx
    obtain ⟨r0, r1, ⟨q, r2⟩, _, _⟩ := h
    have : o = 0 ∨ o = 1 ∨ o = 2 := by omega
    rcases this with rfl | rfl | rfl
    · rw [r0] at hx; cases hx
    · rw [r1] at hx; injection hx with hx; injection hx with hx; cases hx
    · rw [r2] at hx; injection hx with hx; injection hx with hx; cases hx
theorem rd_apart' {w : World} {br i : Nat} {s : ByteArray} {a : Option Addr} {c : Nat} (h : RdAt w br s i) (hz : ZOK w a c) : ∀ b o, zAddr a c b o → ¬ zRow br 1 2 b o :=
  fun b o h1 h2 => rd_apart h hz b o h1 ⟨h2.1, by have := h2.2.2; omega⟩
theorem RdAt.chgZ {w w' : World} {br i : Nat} {s : ByteArray} {a : Option Addr} {c : Nat} (h : RdAt w br s i) (hz : ZOK w a c) (k : Chg (zAddr a c) w w') : RdAt w' br s i :=
  h.chg k (fun o ho hh => rd_apart h hz br o hh ⟨rfl, ho⟩)
theorem rev_upd (X : Nat → Int) (n : Nat) (x : Int) : val (fun i => upd X n x (n + 1 - 1 - i)) (n + 1) = val (fun i => X (n - 1 - i)) n * BB + x := by
  rw [show n + 1 = 1 + n by omega, val_add, val_one]
  have e : val (fun i => upd X n x (1 + n - 1 - (1 + i))) n = val (fun i => X (n - 1 - i)) n := val_congr fun i hi => by
    show upd X n x (1 + n - 1 - (1 + i)) = X (n - 1 - i)
    rw [show 1 + n - 1 - (1 + i) = n - 1 - i by omega, upd_other X x (by omega)]
  rw [e, show 1 + n - 1 - 0 = n by omega, upd_same]
  rw [Int.pow_succ, Int.pow_zero]; grind
theorem norm_le {X : Nat → Int} {n N : Nat} (h : WF X n) (hn : Norm X n) (hv : val X n < BB ^ N) : n ≤ N := by
  by_cases hm : n ≤ N
  · exact hm
  · exfalso
    obtain ⟨m, rfl⟩ : ∃ m, n = m + 1 := ⟨n - 1, by omega⟩
    simp only [Norm, val, Nat.add_sub_cancel] at hn hv
    rcases hn with hn | hn
    · omega
    · have h1 := val_nonneg (h.le (show m ≤ m + 1 by omega))
      have h2 := Int.mul_le_mul_of_nonneg_right (show 1 ≤ X m by have := (h m (by omega)).1; omega) (Int.le_of_lt (BBn_pos m))
      obtain ⟨d, rfl⟩ : ∃ d, m = N + d := ⟨m - N, by omega⟩
      rw [Int.pow_add] at h2 hv
      have h3 := Int.mul_le_mul_of_nonneg_left (show 1 ≤ BB ^ d by have := BBn_pos d; omega) (Int.le_of_lt (BBn_pos N))
      omega
theorem pow_le_BB {b : Int} (hb : 2 ≤ b) (hb2 : b ≤ 16) (N : Nat) : b ^ N ≤ BB ^ N := by
  induction N with
  | zero => simp
  | succ N ih =>
    rw [Int.pow_succ, Int.pow_succ]
    have h1 : b ^ N * b ≤ BB ^ N * b := Int.mul_le_mul_of_nonneg_right ih (by omega)
    have h2 : BB ^ N * b ≤ BB ^ N * BB := Int.mul_le_mul_of_nonneg_left (by unfold BB; omega) (Int.le_of_lt (BBn_pos N))
    omega
theorem Grp.app {w0 w w' : World} {a a' : Option Addr} {n c c' N : Nat} {V x : Int} (h : Grp w0 w 0 a n c N V) (hx : U64 x) (hw : w0.heap.size ≤ w.heap.size)
    (k : ∀ X, Rd w a n X → ∃ Y, (∀ i, i < n → Y i = X i) ∧ AppRes w a n c Y x a' c' w') : Grp w0 w' 0 a' (n + 1) c' (N + 1) (V * BB + x) := by
  obtain ⟨h1, h2, h3, h4, X, h5, h6, h7⟩ := h
  obtain ⟨Y, hY, k1, k2, k3, k4, k5⟩ := k X h5
  rcases h7 with ⟨_, h7⟩ | ⟨h7, _⟩
  · refine ⟨k1, by omega, k2, h4.home k4 hw, upd Y n x, k3, WF_upd (h6.congr (fun i hi => (hY i hi).symm)) hx, Or.inl ⟨rfl, ?_⟩⟩
    rw [rev_upd, val_congr (X := fun i => Y (n - 1 - i)) (Y := fun i => X (n - 1 - i)) (fun i hi => hY _ (by omega)), h7]
  · exact absurd rfl h7
theorem Grp.mul {w0 w w' : World} {a : Option Addr} {n c N N' : Nat} {V v bn : Int} {e : Ending} (h : Grp w0 w bn a n c N V) (hbn : bn ≠ 0) (hw : w0.heap.size ≤ w.heap.size) (hv : v < BB ^ N')
    (k : NatRes w a c v e w') : ∃ a' n' c', e = .returned (.slice a' n' c') ∧ Grp w0 w' bn a' n' c' N' v ∧ Chg (zAddr a c) w w' := by
  obtain ⟨h1, h2, h3, h4, X, h5, h6, h7⟩ := h
  obtain ⟨a', n', c', Y, k0, k1, k2, k3, k4, k5, k6, k7, k8⟩ := k
  exact ⟨a', n', c', k0, ⟨k1, norm_le k4 k5 (by rw [k6]; exact hv), k2, h4.home k7 hw, Y, k3, k4, Or.inr ⟨hbn, k6, k5⟩⟩, k8⟩
def BaseOK (b bn : Int) (n : Nat) : Prop := 2 ≤ b ∧ b ≤ 16 ∧ 1 ≤ n ∧ n ≤ 64 ∧ ((bn = 0 ∧ b ^ n = BB ∧ ((b = 2 ∧ n = 64) ∨ (b = 16 ∧ n = 16))) ∨ (bn ≠ 0 ∧ bn = b ^ n ∧ U64 bn))
theorem BaseOK.pow_le {b bn : Int} {n : Nat} (h : BaseOK b bn n) : b ^ n ≤ BB := by
  obtain ⟨h1, h2, h3, h4, ⟨_, h5, _⟩ | ⟨_, h5, h6⟩⟩ := h
  · omega
  · rw [← h5]; have := h6.2; unfold BB; omega
structure LR (w0 w : World) (b bn : Int) (n : Nat) (st : SS) (a : Option Addr) (zn zc : Nat) (di : Int) (i : Nat) : Prop where
  V0 : ∃ V0 N, Grp w0 w bn a zn zc N V0 ∧ N + i ≤ st.cnt ∧ 0 ≤ V0 ∧ st.V = V0 * b ^ i + di
  hi : i < n
  hd0 : 0 ≤ di
  hd : di < b ^ i
theorem LR.chg {Z : Zone} {w0 w w' : World} {b bn : Int} {n : Nat} {st : SS} {a : Option Addr} {zn zc : Nat} {di : Int} {i : Nat} (h : LR w0 w b bn n st a zn zc di i) (k : Chg Z w w') (hz : ∀ b o, zAddr a zc b o → ¬ Z b o) :
    LR w0 w' b bn n st a zn zc di i := by
  obtain ⟨⟨V0, N, h1, h2, h3, h4⟩, h5, h6, h7⟩ := h
  exact ⟨⟨V0, N, h1.chg k hz, h2, h3, h4⟩, h5, h6, h7⟩
theorem LR.zok {w0 w : World} {b bn : Int} {n : Nat} {st : SS} {a : Option Addr} {zn zc : Nat} {di : Int} {i : Nat} (h : LR w0 w b bn n st a zn zc di i) : ZOK w a zc := by
  obtain ⟨⟨V0, N, h1, _⟩, _⟩ := h; exact h1.2.2.1
theorem LR.state {w0 w : World} {b bn : Int} {n : Nat} {st st' : SS} {a : Option Addr} {zn zc : Nat} {di : Int} {i : Nat} (h : LR w0 w b bn n st a zn zc di i) (e1 : st'.cnt = st.cnt) (e2 : st'.V = st.V) : LR w0 w b bn n st' a zn zc di i := by
  obtain ⟨⟨V0, N, h1, h2, h3, h4⟩, h5, h6, h7⟩ := h
  exact ⟨⟨V0, N, h1, by omega, h3, by omega⟩, h5, h6, h7⟩
theorem LR.digit {w0 w : World} {b bn : Int} {n : Nat} {st : SS} {a : Option Addr} {zn zc : Nat} {di d : Int} {i : Nat} (h : LR w0 w b bn n st a zn zc di i) (hb : BaseOK b bn n) (hd0 : 0 ≤ d) (hd : d < b) :
    IntKind.u64.wrap (IntKind.u64.wrap (di * b) + d) = di * b + d ∧ 0 ≤ di * b + d ∧ di * b + d < b ^ (i + 1) ∧ U64 (di * b + d) := by
  obtain ⟨_, h5, h6, h7⟩ := h
  have h8 := Int.mul_nonneg h6 (show 0 ≤ b by have := hb.1; omega)
  have h9 : di * b + d < b ^ (i + 1) := by
    rw [Int.pow_succ]
    have := Int.mul_le_mul_of_nonneg_right (show di ≤ b ^ i - 1 by omega) (show 0 ≤ b by have := hb.1; omega)
    rw [Int.sub_mul] at this
    omega
  have h10 : b ^ (i + 1) ≤ BB := by
    refine Int.le_trans ?_ hb.pow_le
    obtain ⟨k, rfl⟩ : ∃ k, n = (i + 1) + k := ⟨n - (i + 1), by omega⟩
    rw [Int.pow_add b (i + 1) k]
    have h11 : 1 ≤ b ^ k := Int.pow_pos (by have := hb.1; omega)
    have := Int.mul_le_mul_of_nonneg_left h11 (show 0 ≤ b ^ (i + 1) from Int.le_of_lt (Int.pow_pos (by have := hb.1; omega)))
    omega
  unfold BB at h10
  refine ⟨?_, by omega, h9, by unfold U64; omega⟩
  rw [wrap_u64, wrap_u64]; omega
theorem stepS_digit {b0 : Bool} {b : Int} {st : SS} {c d : Int} (hd : digOf c = d) (h1 : ¬ (c = 46 ∧ st.frac = true)) (h2 : ¬ (c = 95 ∧ b0 = true)) (h : d < b) : stepS b0 b st c = some { st with prev := 48, cnt := st.cnt + 1, V := st.V * b + d } := by
  unfold stepS; rw [if_neg h1, if_neg h2, hd, if_pos h]
theorem stepS_stop {b0 : Bool} {b : Int} {st : SS} {c d : Int} (hd : digOf c = d) (h1 : ¬ (c = 46 ∧ st.frac = true)) (h2 : ¬ (c = 95 ∧ b0 = true)) (h : ¬ d < b) : stepS b0 b st c = none := by
  unfold stepS; rw [if_neg h1, if_neg h2, hd, if_neg h]
theorem stepS_point {b0 : Bool} {b : Int} {st : SS} {c : Int} (h1 : c = 46) (h2 : st.frac = true) : stepS b0 b st c = some { st with frac := false, inval := st.inval || st.prev == 95, prev := 46, dp := st.cnt } := by
  unfold stepS; rw [if_pos ⟨h1, h2⟩]
theorem stepS_bar {b : Int} {st : SS} {c : Int} (h1 : c = 95) : stepS true b st c = some { st with inval := st.inval || st.prev != 48, prev := 95 } := by
  unfold stepS; rw [if_neg (by omega), if_pos ⟨h1, rfl⟩]
theorem LR.fresh {w0 w : World} {b bn : Int} {n : Nat} {st : SS} {a : Option Addr} {zn zc : Nat} {di : Int} {i : Nat} (h : LR w0 w b bn n st a zn zc di i) : Fresh w0 a := by
  obtain ⟨⟨V0, N, h1, _⟩, _⟩ := h; exact h1.2.2.2.1
theorem LR.next {w0 w : World} {b bn : Int} {n : Nat} {prev dp V : Int} {inval fr : Bool} {cnt : Nat} {a : Option Addr} {zn zc : Nat} {di d : Int} {i : Nat} (h : LR w0 w b bn n ⟨prev, inval, fr, cnt, dp, V⟩ a zn zc di i) (hi : i + 1 < n)
    (h0 : 0 ≤ di * b + d) (h1 : di * b + d < b ^ (i + 1)) : LR w0 w b bn n ⟨48, inval, fr, cnt + 1, dp, V * b + d⟩ a zn zc (di * b + d) (i + 1) := by
  obtain ⟨⟨V0, N, g1, g2, g3, g4⟩, h5, h6, h7⟩ := h
  simp only at g2 g4
  exact ⟨⟨V0, N, g1, by simp only; omega, g3, by simp only; rw [g4, Int.pow_succ]; grind⟩, hi, h0, h1⟩
def MulPost (w0 w : World) (b bn : Int) (n : Nat) (st : SS) (a : Option Addr) (zc : Nat) (e : Ending) (w' : World) : Prop :=
  ∃ a' n' c', e = .returned (.slice a' n' c') ∧ Chg (zAddr a zc) w w' ∧ LR w0 w' b bn n st a' n' c' 0 0
theorem LR.mul_call {w0 w : World} {b bn : Int} {n : Nat} {prev dp V : Int} {inval fr : Bool} {cnt : Nat} {a : Option Addr} {zn zc : Nat} {di d x : Int} {i : Nat} (h : LR w0 w b bn n ⟨prev, inval, fr, cnt, dp, V⟩ a zn zc di i) (hb : BaseOK b bn n) (hbn : bn ≠ 0) (hi : i + 1 = n)
    (hx : x = di * b + d) (h1 : U64 (di * b + d)) (hw : w0.heap.size ≤ w.heap.size) (hcnt : cnt < 1048576) (hV : V * b + d < b ^ (cnt + 1)) :
    Calls Tryz.prog 164 #[.slice a zn zc, .slice a zn zc, .int .u64 bn, .int .u64 x] w (MulPost w0 w b bn n ⟨48, inval, fr, cnt + 1, dp, V * b + d⟩ a zc) := by
  obtain ⟨⟨V0, N, g1, g2, g3, g4⟩, h5, h6, h7⟩ := h
  simp only at g2 g4
  have g1' := g1
  obtain ⟨q1, q2, q3, q4, X, q5, q6, q7⟩ := g1
  have hbu : U64 bn ∧ bn = b ^ n := by
    obtain ⟨_, _, _, _, ⟨e, _⟩ | ⟨_, e, e2⟩⟩ := hb
    · exact absurd e hbn
    · exact ⟨e2, e⟩
  have hval : val X zn = V0 := by
    rcases q7 with ⟨e, _⟩ | ⟨_, e, _⟩
    · exact absurd e hbn
    · exact e
  subst hx
  refine (mulAddWW_any a a zn zc zn zc X bn (di * b + d) w q3 q5 q6 q1 (by omega) (Or.inl rfl) hbu.1 h1).mono fun e w' k => ?_
  have hv : val X zn * bn + (di * b + d) = V * b + d := by rw [hval, hbu.2, ← hi, g4, Int.pow_succ]; grind
  rw [hv] at k
  obtain ⟨a', n', c', r1, r2, r3⟩ := g1'.mul hbn hw (N' := cnt + 1) (Int.lt_of_lt_of_le hV (pow_le_BB hb.1 hb.2.1 _)) k
  have hV0 : 0 ≤ V * b + d := by
    rw [← hv, hval]
    have := Int.mul_nonneg g3 hbu.1.1
    have := h1.1
    omega
  exact ⟨a', n', c', r1, r3, ⟨⟨V * b + d, cnt + 1, r2, Nat.le_refl _, hV0, by simp⟩, by have := hb.2.2.1; omega, Int.le_refl _, by simp⟩⟩
theorem LR.app {w0 w : World} {b bn : Int} {n : Nat} {prev dp V : Int} {inval fr : Bool} {cnt : Nat} {a : Option Addr} {zn zc : Nat} {di d x : Int} {i : Nat} (h : LR w0 w b bn n ⟨prev, inval, fr, cnt, dp, V⟩ a zn zc di i) (hb : BaseOK b bn n) (hbn : bn = 0) (hi : i + 1 = n)
    (hx : x = di * b + d) (h1 : U64 (di * b + d)) (hw : w0.heap.size ≤ w.heap.size) (hcnt : cnt < 1048576) (o : Obj) :
    ∃ X, ZOK (w.alloc o) a zc ∧ Rd (w.alloc o) a zn X ∧ zn ≤ zc ∧ zn < 1099511627776 ∧ ∀ a' c' w', AppRes (w.alloc o) a zn zc X x a' c' w' → Chg (zAddr a zc) w w' ∧ LR w0 w' b bn n ⟨48, inval, fr, cnt + 1, dp, V * b + d⟩ a' (zn + 1) c' 0 0 := by
  obtain ⟨⟨V0, N, g1, g2, g3, g4⟩, h5, h6, h7⟩ := h
  simp only at g2 g4
  have kal : Chg zNone w (w.alloc o) := (Chg.refl _ _).alloc o
  have g1' := g1.chg kal (fun _ _ _ h => h)
  obtain ⟨q1, q2, q3, q4, X, q5, q6, q7⟩ := g1'
  have hbb : b ^ n = BB := by
    obtain ⟨_, _, _, _, ⟨_, e, _⟩ | ⟨e, _⟩⟩ := hb
    · exact e
    · exact absurd hbn e
  subst hbn
  subst hx
  refine ⟨X, q3, q5, q1, by omega, fun a' c' w' k => ⟨?_, ?_⟩⟩
  · exact ((Chg.refl (zAddr a zc) w).alloc o).trans k.2.2.2.2 (fun _ _ _ h => h)
  · have r := Grp.app (w0 := w0) (w := w.alloc o) (w' := w') (a := a) (a' := a') (n := zn) (c := zc) (c' := c') (N := N) (V := V0) (x := di * b + d) ⟨q1, q2, q3, q4, X, q5, q6, q7⟩ h1 (by have := kal.size; omega)
      (fun X' hX' => ⟨X, fun i hi => ?_, k⟩)
    · have hv : V * b + d = V0 * BB + (di * b + d) := by rw [← hbb, ← hi, g4, Int.pow_succ]; grind
      refine ⟨⟨V0 * BB + (di * b + d), N + 1, r, by simp only; omega, ?_, by rw [hv]; simp⟩, by have := hb.2.2.1; omega, Int.le_refl _, by simp⟩
      have := Int.mul_nonneg g3 (show (0:Int) ≤ BB by decide)
      have := h1.1
      omega
    · rcases q5 with e | ⟨b1, o1, e, hw1⟩
      · omega
      · rcases hX' with e' | ⟨b2, o2, e', hw2⟩
        · omega
        · rw [e] at e'; injection e' with e'; injection e' with e1 e2; subst e1; subst e2
          have := (hw1 i hi).symm.trans (hw2 i hi)
          injection this with this; injection this
set_option maxRecDepth 100000
theorem info229 : (Tryz.prog.info? 229).map (fun i => i.comparable) = some true := by kernel_rfl
theorem info231 : (Tryz.prog.info? 231).isSome = true := by kernel_rfl
theorem eof_eq (a : Addr) (w : World) : (binOp .eql 110 (.iface 229 (.pointer (some a))) (.iface 229 (.pointer (some a)))).run Tryz.prog w = .ok (.bool true) w := by
  obtain ⟨i, hi⟩ := Option.isSome_iff_exists.1 info231
  have h := info229
  cases hj : Tryz.prog.info? 229 with
  | none => rw [hj] at h; cases h
  | some j =>
    rw [hj] at h
    exact run_eql_iface_ptr_same w a Tryz.underlying110 Tryz.underlying229 hj (by simpa using h) hi
theorem eof_ne (a : Addr) (w : World) : (binOp .eql 110 .nilIface (.iface 229 (.pointer (some a)))).run Tryz.prog w = .ok (.bool false) w :=
  run_eql_iface_nil_left w 229 (.pointer (some a)) Tryz.underlying110
set_option maxHeartbeats 1000000 in
theorem reverse_zero (a : Option Addr) (c : Nat) (w : World) : Calls Tryz.prog 184 #[.slice a 0 c] w fun e w' => (∃ v, e = .returned v) ∧ w = w' := by
  go_enter Tryz.func184, Tryz.ntmps184
  go_wp2_with fail
  go_loopw [2, 3] (fun si sj wr => si = .int .i64 0 ∧ sj = .int .i64 (-1) ∧ w = wr) (fun si sj _ => 0)
  case atStart => exact ⟨rfl, rfl, rfl⟩
  case round =>
    obtain ⟨rfl, rfl, rfl⟩ := hrel
    go_wp2_with fail
    go_end0
    exact ⟨⟨_, rfl⟩, rfl⟩
def Got (w0 w : World) (a : Option Addr) (n c : Nat) (V : Int) : Prop := n ≤ c ∧ n < 1048577 ∧ ZOK w a c ∧ Fresh w0 a ∧ ∃ X, Rd w a n X ∧ WF X n ∧ Norm X n ∧ val X n = V
theorem Got.chg {Z : Zone} {w0 w w' : World} {a : Option Addr} {n c : Nat} {V : Int} (h : Got w0 w a n c V) (k : Chg Z w w') (hz : ∀ b o, zAddr a c b o → ¬ Z b o) : Got w0 w' a n c V := by
  obtain ⟨h1, h2, h3, h4, X, h5, h6⟩ := h
  exact ⟨h1, h2, h3.chg k hz, h4, X, h5.chg k h1 hz, h6⟩
theorem got_of_res {w0 w w' : World} {a : Option Addr} {c N : Nat} {v : Int} {e : Ending} (hf : Fresh w0 a) (hw : w0.heap.size ≤ w.heap.size) (hv : v < BB ^ N) (hN : N < 1048577) (k : NatRes w a c v e w') :
    ∃ a' n' c', e = .returned (.slice a' n' c') ∧ Got w0 w' a' n' c' v ∧ Chg (zAddr a c) w w' := by
  obtain ⟨a', n', c', Y, k0, k1, k2, k3, k4, k5, k6, k7, k8⟩ := k
  exact ⟨a', n', c', k0, ⟨k1, by have := norm_le k4 k5 (by rw [k6]; exact hv); omega, k2, hf.home k7 hw, Y, k3, k4, k5, k6⟩, k8⟩
theorem LR.got_mul {w0 w : World} {b bn : Int} {n : Nat} {st : SS} {a : Option Addr} {zn zc : Nat} {di : Int} (h : LR w0 w b bn n st a zn zc di 0) (hbn : bn ≠ 0) (hc : st.cnt < 1048576) : Got w0 w a zn zc st.V := by
  obtain ⟨⟨V0, N, ⟨g1, g2, g3, g4, X, g5, g6, g7⟩, h2, h3, h4⟩, h5, h6, h7⟩ := h
  rw [Int.pow_zero] at h4 h7
  rcases g7 with ⟨e, _⟩ | ⟨_, e1, e2⟩
  · exact absurd e hbn
  · exact ⟨g1, by omega, g3, g4, X, g5, g6, e2, by rw [e1]; omega⟩
theorem LR.last_mul {w0 w : World} {b bn : Int} {n : Nat} {st : SS} {a : Option Addr} {zn zc : Nat} {di : Int} {i : Nat} (h : LR w0 w b bn n st a zn zc di i) (hb : BaseOK b bn n) (hbn : bn ≠ 0) (hc : st.cnt < 1048576) (hV : st.V < b ^ st.cnt) (hw : w0.heap.size ≤ w.heap.size) :
    Calls Tryz.prog 164 #[.slice a zn zc, .slice a zn zc, .int .u64 (b ^ i), .int .u64 di] w fun e w' => ∃ a' n' c', e = .returned (.slice a' n' c') ∧ Got w0 w' a' n' c' st.V ∧ Chg (zAddr a zc) w w' := by
  have hp := hb.pow_le
  have hfr := h.fresh
  obtain ⟨⟨V0, N, ⟨g1, g2, g3, g4, X, g5, g6, g7⟩, h2, h3, h4⟩, h5, h6, h7⟩ := h
  have e1 : val X zn = V0 := by
    rcases g7 with ⟨e, _⟩ | ⟨_, e1, e2⟩
    · exact absurd e hbn
    · exact e1
  have hb0 : (0:Int) < b ^ i := Int.pow_pos (by have := hb.1; omega)
  have hbi : b ^ i < BB := by
    obtain ⟨k, rfl⟩ : ∃ k, n = (i + 1) + k := ⟨n - (i + 1), by omega⟩
    rw [Int.pow_add, Int.pow_succ] at hp
    have hk : (1:Int) ≤ b ^ k := Int.pow_pos (by have := hb.1; omega)
    have h1 := Int.mul_le_mul_of_nonneg_left (show (2:Int) ≤ b from hb.1) (Int.le_of_lt hb0)
    have h2 := Int.mul_le_mul_of_nonneg_left hk (show 0 ≤ b ^ i * b by omega)
    omega
  unfold BB at hbi
  refine (mulAddWW_any a a zn zc zn zc X (b ^ i) di w g3 g5 g6 g1 (by omega) (Or.inl rfl) ⟨by omega, hbi⟩ ⟨h6, by omega⟩).mono fun e w' k => ?_
  have hv : val X zn * b ^ i + di = st.V := by rw [e1, h4]
  rw [hv] at k
  obtain ⟨a', n', c', r1, r2, r3⟩ := got_of_res hfr hw (Int.lt_of_lt_of_le hV (pow_le_BB hb.1 hb.2.1 _)) (by omega) k
  exact ⟨a', n', c', r1, r2, r3⟩
def GotU (w0 w : World) (a : Option Addr) (n c : Nat) (V : Int) : Prop := n ≤ c ∧ n < 1048577 ∧ ZOK w a c ∧ Fresh w0 a ∧ ∃ X, Rd w a n X ∧ WF X n ∧ val X n = V
theorem rev_call {w0 w : World} {a : Option Addr} {n c N : Nat} {R : Int} (h : Grp w0 w 0 a n c N R) (hn : N < 1048577) :
    Calls Tryz.prog 184 #[.slice a n c] w fun e w' => (∃ v, e = .returned v) ∧ GotU w0 w' a n c R ∧ Chg (zAddr a c) w w' := by
  obtain ⟨g1, g2, g3, g4, X, g5, g6, g7⟩ := h
  have hv : val (fun i => X (n - 1 - i)) n = R := by
    rcases g7 with ⟨_, e⟩ | ⟨e, _⟩
    · exact e
    · exact absurd rfl e
  by_cases h0 : n = 0
  · subst h0
    refine (reverse_zero a c w).mono ?_
    rintro e w' ⟨h1, rfl⟩
    exact ⟨h1, ⟨g1, by omega, g3, g4, X, g5, g6, by simpa [val] using hv⟩, Chg.refl _ _⟩
  · obtain ⟨b, o, rfl, hX⟩ : ∃ b o, a = some ⟨b, o, none⟩ ∧ Words w b o n X := by
      rcases g5 with h | h
      · exact absurd h h0
      · exact h
    obtain ⟨b', o', e, hpb, hroom⟩ := g3.room (by omega)
    injection e with e; injection e with e1 e2; subst e1; subst e2
    refine (reverse_any b o n c X w (by omega) hX (fun i hi => (hroom i (by omega)).2)).mono ?_
    rintro e w' ⟨h1, h2, h3⟩
    refine ⟨h1, ⟨g1, by omega, Or.inr ⟨b, o, rfl, hpb.chg h2, room_after hroom g1 h2 h3, g3.cap⟩, g4, _, Or.inr ⟨b, o, rfl, h3⟩, fun i hi => g6 _ (by omega), hv⟩, ?_⟩
    exact h2.mono (fun bb oo _ ⟨e1, e2, e3⟩ => ⟨o, by rw [e1], e2, by omega⟩)
theorem norm_call {w0 w : World} {a : Option Addr} {n c : Nat} {R : Int} (h : GotU w0 w a n c R) :
    Calls Tryz.prog 141 #[.slice a n c] w fun e w' => ∃ i, e = .returned (.slice a i c) ∧ Got w0 w a i c R ∧ w = w' := by
  obtain ⟨g1, g2, g3, g4, X, g5, g6, g7⟩ := h
  refine (norm_any a n c X w g5 g1 g3.cap).mono ?_
  rintro e w' ⟨i, rfl, h1, h2, h3, rfl⟩
  refine ⟨i, rfl, ⟨by omega, by omega, g3, g4, X, ?_, g6.le h1, h3, by rw [← val_top h1 h2]; exact g7⟩, rfl⟩
  rcases g5 with h | ⟨b, o, e, h⟩
  · exact Or.inl (by omega)
  · exact Or.inr ⟨b, o, e, h.le h1⟩
theorem rsh_call {w0 w : World} {a : Option Addr} {n c N s : Nat} {R V : Int} (h : Got w0 w a n c R) (hw : w0.heap.size ≤ w.heap.size) (hs0 : 0 < s) (hs : s < 4294967296) (hV : R / 2 ^ s = V) (hN : V < BB ^ N) (hN2 : N < 1048577) :
    Calls Tryz.prog 178 #[.slice a n c, .slice a n c, .int .u64 s] w fun e w' => ∃ a' n' c', e = .returned (.slice a' n' c') ∧ Got w0 w' a' n' c' V ∧ Chg (zAddr a c) w w' := by
  obtain ⟨g1, g2, g3, g4, X, g5, g6, g7, g8⟩ := h
  refine (rsh_any a a n c n c X s w g3 g5 g6 g1 (by omega) (Or.inl rfl) hs0 hs).mono fun e w' k => ?_
  rw [g8, hV] at k
  exact got_of_res g4 hw hN hN2 k
theorem bn0_val {V V0 di : Int} {b : Int} {n i q : Nat} (hb : b ^ n = BB) (hq : b = 2 ^ q) (hi : i < n) (hV : V = V0 * b ^ i + di) : (V0 * BB + di * b ^ (n - i)) / 2 ^ ((n - i) * q) = V := by
  have e : b ^ (n - i) = 2 ^ ((n - i) * q) := by rw [hq, ← Int.pow_mul, Nat.mul_comm]
  have e2 : BB = b ^ i * b ^ (n - i) := by rw [← Int.pow_add, show i + (n - i) = n by omega, hb]
  rw [← e, e2, show V0 * (b ^ i * b ^ (n - i)) + di * b ^ (n - i) = (V0 * b ^ i + di) * b ^ (n - i) by grind, hV]
  exact Int.mul_ediv_cancel _ (by have : (0:Int) < b ^ (n - i) := by rw [e]; exact Int.pow_pos (by omega)
                                  omega)
theorem bn0_word {di : Int} {b : Int} {n i : Nat} (hb0 : 2 ≤ b) (hb : b ^ n = BB) (hi : i < n) (h0 : 0 ≤ di) (h1 : di < b ^ i) : U64 (di * b ^ (n - i)) ∧ IntKind.u64.wrap (di * b ^ (n - i)) = di * b ^ (n - i) := by
  have hp : (0:Int) < b ^ (n - i) := Int.pow_pos (by omega)
  have e2 : BB = b ^ i * b ^ (n - i) := by rw [← Int.pow_add, show i + (n - i) = n by omega, hb]
  have h2 := Int.mul_nonneg h0 (Int.le_of_lt hp)
  have h3 := Int.mul_le_mul_of_nonneg_right (show di + 1 ≤ b ^ i by omega) (Int.le_of_lt hp)
  rw [Int.add_mul, ← e2] at h3
  unfold BB at h3
  refine ⟨⟨h2, by omega⟩, ?_⟩
  rw [wrap_u64]; omega
theorem calls_third {f : FuncId} {v1 v2 : Value} {x y : Int} {w : World} {Q : Ending → World → Prop} (h : y = x) (k : Calls Tryz.prog f #[v1, v2, .int .u64 y] w Q) : Calls Tryz.prog f #[v1, v2, .int .u64 x] w Q := by subst h; exact k
theorem calls_second {f : FuncId} {v1 : Value} {x y : Int} {w : World} {Q : Ending → World → Prop} (h : y = x) (k : Calls Tryz.prog f #[v1, .int .i64 y] w Q) : Calls Tryz.prog f #[v1, .int .i64 x] w Q := by subst h; exact k
theorem grp_app {w0 w : World} {a : Option Addr} {zn zc N : Nat} {V0 x y : Int} (g1 : Grp w0 w 0 a zn zc N V0) (hx : y = x) (h1 : U64 x) (hw : w0.heap.size ≤ w.heap.size) (hN : N < 1048577) (o : Obj) :
    ∃ X, ZOK (w.alloc o) a zc ∧ Rd (w.alloc o) a zn X ∧ zn ≤ zc ∧ zn < 1099511627776 ∧ ∀ a' c' w', AppRes (w.alloc o) a zn zc X y a' c' w' → Grp w0 w' 0 a' (zn + 1) c' (N + 1) (V0 * BB + x) ∧ Chg (zAddr a zc) w w' := by
  subst hx
  have kal : Chg zNone w (w.alloc o) := (Chg.refl _ _).alloc o
  have g1' := g1.chg kal (fun _ _ _ h => h)
  obtain ⟨q1, q2, q3, q4, X, q5, q6, q7⟩ := g1'
  refine ⟨X, q3, q5, q1, by omega, fun a' c' w' k => ⟨?_, ?_⟩⟩
  · refine Grp.app (w0 := w0) (w := w.alloc o) (w' := w') (a := a) (a' := a') (n := zn) (c := zc) (c' := c') (N := N) (V := V0) (x := y) ⟨q1, q2, q3, q4, X, q5, q6, q7⟩ h1 (by have := kal.size; omega)
      (fun X' hX' => ⟨X, fun i hi => ?_, k⟩)
    rcases q5 with e | ⟨b1, o1, e, hw1⟩
    · omega
    · rcases hX' with e' | ⟨b2, o2, e', hw2⟩
      · omega
      · rw [e] at e'; injection e' with e'; injection e' with e1 e2; subst e1; subst e2
        have := (hw1 i hi).symm.trans (hw2 i hi)
        injection this with this; injection this
  · exact ((Chg.refl (zAddr a zc) w).alloc o).trans k.2.2.2.2 (fun _ _ _ h => h)
theorem base_pow {b bn : Int} {n i : Nat} (hb : BaseOK b bn n) (hi : i < n) : b ^ i < 18446744073709551616 ∧ 0 ≤ b ^ i := by
  have hp := hb.pow_le
  have hb0 : (0:Int) < b ^ i := Int.pow_pos (by have := hb.1; omega)
  obtain ⟨k, rfl⟩ : ∃ k, n = (i + 1) + k := ⟨n - (i + 1), by omega⟩
  rw [Int.pow_add, Int.pow_succ] at hp
  have hk : (1:Int) ≤ b ^ k := Int.pow_pos (by have := hb.1; omega)
  have h1 := Int.mul_le_mul_of_nonneg_left (show (2:Int) ≤ b from hb.1) (Int.le_of_lt hb0)
  have h2 := Int.mul_le_mul_of_nonneg_left hk (show 0 ≤ b ^ i * b by omega)
  unfold BB at hp
  omega
theorem scanS_zero {base : Int} {frac : Bool} {s : ByteArray} {p q : Nat} {st : SS} {PR : Pre} {sep : Bool} (hp : preS base frac s p = PR) (h : lastS base frac s p = (q, st)) (hc : st.cnt = 0 ∧ PR.pf = 48) (hs : sepOf st = sep) : scanS base frac s p = ⟨0, 10, 1, if sep = true then 1 else 0, q⟩ := by
  subst hs; subst hp
  unfold scanS; rw [h]; simp only; rw [if_pos hc]
theorem scanS_else {base : Int} {frac : Bool} {s : ByteArray} {p q : Nat} {st : SS} {PR : Pre} {sep : Bool} (hp : preS base frac s p = PR) (h : lastS base frac s p = (q, st)) (hc : ¬ (st.cnt = 0 ∧ PR.pf = 48)) (hs : sepOf st = sep) :
    scanS base frac s p = ⟨st.V, PR.b, if 0 ≤ st.dp then st.dp - st.cnt else st.cnt, if st.cnt = 0 then 2 else if sep = true then 1 else 0, q⟩ := by
  subst hs; subst hp
  unfold scanS; rw [h]; simp only; rw [if_neg hc]
def FinRel (w0 : World) (br : Nat) (s : ByteArray) (q : Nat) (V : Int) (s0 : Value) (wc : World) : Prop := ∃ a n c, s0 = .slice a n c ∧ Hid (Got w0 wc a n c V ∧ RdAt wc br s q ∧ Chg (zRow br 1 2) w0 wc)
def ScanPost (w0 : World) (br : Nat) (s : ByteArray) (sc : Scan) (e1 e2 : Value) (e : Ending) (w' : World) : Prop :=
  ∃ a n c, e = .returned (.tuple #[.slice a n c, .int .i64 sc.b, .int .i64 sc.cnt, if sc.err = 0 then .nilIface else if sc.err = 1 then e1 else e2]) ∧ Got w0 w' a n c sc.V ∧ RdAt w' br s sc.p ∧ Chg (zRow br 1 2) w0 w'
end Go.Proofs.YtmgfajamanakcaaGreatDoor
