/- Part of the proof of FnParse: what the functions that it reaches do, as contracts. Conditions: those that each theorem names. -/
import Derived.Test.YtmgfajamanakcaaGreatDoorT40
import Derived.Deep.RegionHeld3
import Derived.Test.YtmgfajamanakcaaGreatDoorT36
import Derived.Test.YtmgfajamanakcaaGreatDoorT20
import Derived.Test.YtmgfajamanakcaaGreatDoorT28
import Derived.Test.YtmgfajamanakcaaGreatDoorT16
import Derived.Lib.SlBytesRow
namespace Go.Proofs.YtmgfajamanakcaaGreatDoor
set_option linter.unusedVariables false
set_option linter.unusedSimpArgs false
open Go Go.RowKit
set_option maxRecDepth 100000
theorem natOne_any (w : World) : Calls Tryz.prog 103 #[] w fun e w' => e = .returned (.slice (some ⟨w.heap.size, 0, none⟩) 1 1) ∧ w' = w.alloc (.cells #[.int .u64 1] 153) := by
  go_enter Tryz.func103, Tryz.ntmps103
  go_wp2
  go_ret
  exact ⟨rfl, rfl⟩
def IsIntP (w : World) (D : Int) (e : Ending) (w' : World) : Prop := e = .returned (.bool (decide (D = 1))) ∧ Chg zNone w w'
set_option maxHeartbeats 8000000 in
theorem IsInt_any (rb : Nat) (sg2 : Bool) (ya : Option Addr) (yn yc : Nat) (Y : Nat → Int) (D : Int) (w : World) (hB : IntC w rb 2 sg2 ya yn yc) (hy : NatIn w ya yn yc Y) (hny : Norm Y yn) (hd : val Y yn = D) (hm0 : 0 < yn) :
    Calls Tryz.prog 88 #[.pointer (some ⟨rb, 0, none⟩)] w (IsIntP w D) := by
  have hyn : ((yn : Int) == 0) = false := beq_false_of_ne (by omega)
  have HC : Hid (∀ W b, Chg zNone w W → W.cell? ⟨b, 0, none⟩ = some (.int .u64 1) → PB W b → Calls Tryz.prog 108 #[.slice ya yn yc, .slice (some ⟨b, 0, none⟩) 1 1] W (CmpPost W D 1)) := fun W b k hc hp => by
    have hw : Words W b 0 1 (fun _ => 1) := fun i hi => by
      obtain rfl : i = 0 := by omega
      exact hc
    have := cmp_any ya (some ⟨b, 0, none⟩) yn yc 1 1 Y (fun _ => 1) W ⟨rd_far hy.rd k (fun _ _ _ _ _ h => h), hy.wf, hy.le, hy.small, hy.aok.chg k⟩ ⟨Or.inr ⟨b, 0, rfl, hw⟩, fun i hi => ⟨by omega, by decide⟩, Nat.le_refl _, by omega, Or.inr ⟨b, 0, rfl, hp, by omega⟩⟩ hny (Or.inr (by decide))
    rw [hd] at this
    exact this
  have HRes : Hid ((cmpV D 1 == 0) = decide (D = 1)) := by
    unfold Hid cmpV
    by_cases h1 : D < 1
    · rw [if_pos h1]; simp; omega
    · by_cases h2 : 1 < D
      · rw [if_neg h1]; split <;> simp <;> omega
      · rw [if_neg h1]; split <;> simp <;> omega
  obtain ⟨y0, y1, y2, y3⟩ := hB
  have y1a : (w.alloc (.cells #[.int .u64 1] 153)).cell? ⟨rb, 3, none⟩ = some (.slice ya yn yc) := ((Chg.refl zNone w).alloc _).cell y1 (fun h => h)
  clear hy hny hd
  go_enter Tryz.func88, Tryz.ntmps88
  go_upto_region 1 with fail
  refine wp_region_noPanic ?_
  refine wp_region_any (by kernel_rfl) ?_
  change wpAny _ _ _ _ _ _ _ (World.drew _)
  refine wpAny_take (i := 0) (v := ?_) rfl (by kernel_rfl) (by kernel_rfl) (by kernel_rfl) (fun _ _ _ h => False.elim h) (Or.inl ⟨by rfl, ?_⟩) ?_
  rotate_left 1
  · intro w9
    go_simp
    try with_reducible rfl
  try simp only [putL, putN, List.set_cons_zero, List.set_cons_succ]
  refine wpAny_take (i := 1) (v := ?_) rfl (by kernel_rfl) (by kernel_rfl) (by kernel_rfl) (fun _ _ _ h => False.elim h) (Or.inl ⟨by rfl, ?_⟩) ?_
  rotate_left 1
  · intro w9
    go_simp
    try with_reducible rfl
  try simp only [putL, putN, List.set_cons_zero, List.set_cons_succ]
  refine wpAny_take (i := 2) (v := ?_) rfl (by kernel_rfl) (by kernel_rfl) (by kernel_rfl) (fun _ _ _ h => False.elim h) (Or.inl ⟨by rfl, ?_⟩) ?_
  rotate_left 1
  · intro w9
    go_simp
    try with_reducible rfl
  try simp only [putL, putN, List.set_cons_zero, List.set_cons_succ]
  refine wpAny_take (i := 3) (v := ?_) rfl (by kernel_rfl) (by kernel_rfl) (by kernel_rfl) (fun _ _ _ h => False.elim h) (Or.inl ⟨by rfl, ?_⟩) ?_
  rotate_left 1
  · intro w9
    go_simp
    try with_reducible rfl
  try simp only [putL, putN, List.set_cons_zero, List.set_cons_succ]
  refine wpAny_ready (rs := [4]) (by kernel_rfl) (by simp) ?_
  refine AllReady.cons rfl (fun K hK => ?_) AllReady.nil
  go_simp
  refine hK _ _ ?_
  clear hK K
  try simp only [putL, putN, List.set_cons_zero, List.set_cons_succ]
  refine wpAny_take (i := 5) (v := ?_) rfl (by kernel_rfl) (by kernel_rfl) (by kernel_rfl) (fun _ _ _ h => False.elim h) (Or.inl ⟨by rfl, ?_⟩) ?_
  rotate_left 1
  · intro w9
    go_simp
    try with_reducible rfl
  try simp only [putL, putN, List.set_cons_zero, List.set_cons_succ]
  refine wpAny_take (i := 6) (v := ?_) rfl (by kernel_rfl) (by kernel_rfl) (by kernel_rfl) (fun _ _ _ h => False.elim h) (Or.inl ⟨by rfl, ?_⟩) ?_
  rotate_left 1
  · intro w9
    go_simp
    try with_reducible rfl
  try simp only [putL, putN, List.set_cons_zero, List.set_cons_succ]
  refine wpAny_take (i := 7) (v := ?_) rfl (by kernel_rfl) (by kernel_rfl) (by kernel_rfl) (fun _ _ _ h => False.elim h) (Or.inl ⟨by rfl, ?_⟩) ?_
  rotate_left 1
  · intro w9
    go_simp
    try with_reducible rfl
  try simp only [putL, putN, List.set_cons_zero, List.set_cons_succ]
  refine wpAny_take (i := 8) (v := ?_) rfl (by kernel_rfl) (by kernel_rfl) (by kernel_rfl) (fun _ _ _ h => False.elim h) (Or.inl ⟨by rfl, ?_⟩) ?_
  rotate_left 1
  · intro w9
    go_simp
    try with_reducible rfl
  try simp only [putL, putN, List.set_cons_zero, List.set_cons_succ]
  refine wpAny_take (i := 9) (v := ?_) rfl (by kernel_rfl) (by kernel_rfl) (by kernel_rfl) (fun _ _ _ h => False.elim h) (Or.inl ⟨by rfl, ?_⟩) ?_
  rotate_left 1
  · intro w9
    go_simp
    try with_reducible rfl
  try simp only [putL, putN, List.set_cons_zero, List.set_cons_succ]
  refine wpAny_take (i := 10) (v := ?_) rfl (by kernel_rfl) (by kernel_rfl) (by kernel_rfl) (fun _ _ _ h => False.elim h) (Or.inl ⟨by rfl, ?_⟩) ?_
  rotate_left 1
  · intro w9
    go_simp
    try with_reducible rfl
  try simp only [putL, putN, List.set_cons_zero, List.set_cons_succ]
  refine wpAny_take (i := 11) (v := ?_) rfl (by kernel_rfl) (by kernel_rfl) (by kernel_rfl) (fun _ _ _ h => False.elim h) (Or.inl ⟨by rfl, ?_⟩) ?_
  rotate_left 1
  · intro w9
    go_simp
    try with_reducible rfl
  try simp only [putL, putN, List.set_cons_zero, List.set_cons_succ]
  refine wpAny_ready (rs := [12, 13]) (by kernel_rfl) (by simp) ?_
  refine AllReady.cons rfl (fun K hK => ?_) (AllReady.cons rfl (fun K hK => ?_) AllReady.nil)
  · skip
    go_simp
    refine hK _ _ ?_
    clear hK K
    try simp only [putL, putN, List.set_cons_zero, List.set_cons_succ]
    refine wpAny_ready (rs := [13]) (by kernel_rfl) (by simp) ?_
    refine AllReady.cons rfl (fun K hK => ?_) AllReady.nil
    go_simp
    go_wp2_with (go_at_call 103; go_loud (refine (natOne_any _).mono ?_; rintro e w1 ⟨rfl, rfl⟩))
    try simp only [putL, putN, List.set_cons_zero, List.set_cons_succ]
    refine wpAny_ready (rs := [14]) (by kernel_rfl) (by simp) ?_
    refine AllReady.cons rfl (fun K hK => ?_) AllReady.nil
    go_simp
    go_wp2_with (go_at_call 108; go_loud (refine (HC.out _ _ (by first | exact (Chg.refl _ _).drew.alloc _ | exact ((Chg.refl _ _).alloc _).drew) (by first | exact cell?_alloc_new _ _ _ 0 _ rfl) (by first | exact PB.new _ _ _)).mono ?_; rintro e w2 ⟨rfl, kn, rfl⟩))
    try simp only [putL, putN, List.set_cons_zero, List.set_cons_succ]
    refine wpAny_take (i := 15) (v := ?_) rfl (by kernel_rfl) (by kernel_rfl) (by kernel_rfl) (fun _ _ _ h => False.elim h) (Or.inl ⟨by rfl, ?_⟩) ?_
    rotate_left 1
    · intro w9
      go_simp
      try with_reducible rfl
    try simp only [putL, putN, List.set_cons_zero, List.set_cons_succ]
    refine wpAny_take (i := 16) (v := ?_) rfl (by kernel_rfl) (by kernel_rfl) (by kernel_rfl) (fun _ _ _ h => False.elim h) (Or.inl ⟨by rfl, ?_⟩) ?_
    rotate_left 1
    · intro w9
      go_simp
      try with_reducible rfl
    try simp only [putL, putN, List.set_cons_zero, List.set_cons_succ]
    refine wpAny_take (i := 17) (v := ?_) rfl (by kernel_rfl) (by kernel_rfl) (by kernel_rfl) (fun _ _ _ h => False.elim h) (Or.inl ⟨by rfl, ?_⟩) ?_
    rotate_left 1
    · intro w9
      go_simp
      try with_reducible rfl
    try simp only [putL, putN, List.set_cons_zero, List.set_cons_succ]
    refine wpAny_done (by kernel_rfl) ?_ _
    refine NoPanic.normal ?_
    go_wp2
    go_ret
    exact ⟨congrArg (fun b => Ending.returned (Value.bool b)) HRes.out, ((Chg.refl _ _).alloc _).drewN _⟩
  · skip
    go_simp
    go_wp2_with (go_at_call 103; go_loud (refine (natOne_any _).mono ?_; rintro e w1 ⟨rfl, rfl⟩))
    try simp only [putL, putN, List.set_cons_zero, List.set_cons_succ]
    refine wpAny_ready (rs := [12]) (by kernel_rfl) (by simp) ?_
    refine AllReady.cons rfl (fun K hK => ?_) AllReady.nil
    go_simp
    refine hK _ _ ?_
    clear hK K
    try simp only [putL, putN, List.set_cons_zero, List.set_cons_succ]
    refine wpAny_ready (rs := [14]) (by kernel_rfl) (by simp) ?_
    refine AllReady.cons rfl (fun K hK => ?_) AllReady.nil
    go_simp
    go_wp2_with (go_at_call 108; go_loud (refine (HC.out _ _ (by first | exact (Chg.refl _ _).drew.alloc _ | exact ((Chg.refl _ _).alloc _).drew) (by first | exact cell?_alloc_new _ _ _ 0 _ rfl) (by first | exact PB.new _ _ _)).mono ?_; rintro e w2 ⟨rfl, kn, rfl⟩))
    try simp only [putL, putN, List.set_cons_zero, List.set_cons_succ]
    refine wpAny_take (i := 15) (v := ?_) rfl (by kernel_rfl) (by kernel_rfl) (by kernel_rfl) (fun _ _ _ h => False.elim h) (Or.inl ⟨by rfl, ?_⟩) ?_
    rotate_left 1
    · intro w9
      go_simp
      try with_reducible rfl
    try simp only [putL, putN, List.set_cons_zero, List.set_cons_succ]
    refine wpAny_take (i := 16) (v := ?_) rfl (by kernel_rfl) (by kernel_rfl) (by kernel_rfl) (fun _ _ _ h => False.elim h) (Or.inl ⟨by rfl, ?_⟩) ?_
    rotate_left 1
    · intro w9
      go_simp
      try with_reducible rfl
    try simp only [putL, putN, List.set_cons_zero, List.set_cons_succ]
    refine wpAny_take (i := 17) (v := ?_) rfl (by kernel_rfl) (by kernel_rfl) (by kernel_rfl) (fun _ _ _ h => False.elim h) (Or.inl ⟨by rfl, ?_⟩) ?_
    rotate_left 1
    · intro w9
      go_simp
      try with_reducible rfl
    try simp only [putL, putN, List.set_cons_zero, List.set_cons_succ]
    refine wpAny_done (by kernel_rfl) ?_ _
    refine NoPanic.normal ?_
    go_wp2
    go_ret
    exact ⟨congrArg (fun b => Ending.returned (Value.bool b)) HRes.out, ((Chg.refl _ _).alloc _).drewN _⟩
def ShortP (w : World) (neg : Bool) (V D : Int) (e : Ending) (w' : World) : Prop := ∃ s, e = .returned (.string s) ∧ (D = 1 → NumS s (neg && decide (V ≠ 0)) V) ∧ (D ≠ 1 → FracS s (neg && decide (V ≠ 0)) V D) ∧ Chg zNone w w'
set_option maxHeartbeats 2000000 in
theorem RatString_any (rb : Nat) (sg : Bool) (xa : Option Addr) (xn xc : Nat) (X : Nat → Int) (V : Int) (ya : Option Addr) (yn yc : Nat) (Y : Nat → Int) (D : Int) (w : World) (hA : IntC w rb 0 sg xa xn xc) (hB : IntC w rb 2 false ya yn yc) (hx : NatIn w xa xn xc X) (hnx : Norm X xn) (hv : val X xn = V) (hn22 : xn < 22)
    (hy : NatIn w ya yn yc Y) (hny : Norm Y yn) (hd : val Y yn = D) (hm22 : yn < 22) (hm0 : 0 < yn) (hg : Glob w) :
    Calls Tryz.prog 55 #[.pointer (some ⟨rb, 0, none⟩)] w (ShortP w sg V D) := by
  have HI := Lib.hid (IsInt_any rb false ya yn yc Y D w hB hy hny hd hm0)
  have far : ∀ {a : Option Addr} {n c : Nat} {Z : Nat → Int} {W : World}, NatIn w a n c Z → Chg zNone w W → NatIn W a n c Z := fun h k => ⟨rd_far h.rd k (fun _ _ _ _ _ h => h), h.wf, h.le, h.small, h.aok.chg k⟩
  have HS : Hid (∀ W, Chg zNone w W → Calls Tryz.prog 54 #[.pointer (some ⟨rb, 0, none⟩)] W (StrP W sg V D)) := fun W k =>
    String_any rb sg xa xn xc X V ya yn yc Y D W (hA.chg k (fun _ _ h => h)) (hB.chg k (fun _ _ h => h)) (far hx k) hnx hv hn22 (far hy k) hny hd hm22 hm0 (hg.far k)
  have HT : Hid (∀ W, Chg zNone w W → Calls Tryz.prog 96 #[.pointer (some ⟨rb, 0, none⟩)] W (NumP W sg V)) := fun W k =>
    IntString_any rb 0 sg xa xn xc X V W (hA.chg k (fun _ _ h => h)) (far hx k) hnx hv hn22 (hg.far k)
  clear hA hB hx hnx hv hy hny hd hg far
  go_enter Tryz.func55, Tryz.ntmps55
  go_wp2_with fail
  refine HI.out.mono ?_
  rintro e w1 ⟨rfl, k1⟩
  have K1 := Lib.hid k1
  clear k1
  by_cases h1 : D = 1
  · have d1 : decide (D = 1) = true := decide_eq_true h1
    have H1 := Lib.hid h1
    rw [d1]
    clear h1 d1
    go_wp2_with fail
    refine (HT.out w1 K1.out).mono ?_
    rintro e w2 ⟨s, rfl, g1, g2⟩
    have H := Lib.hid (And.intro g1 g2)
    clear g1 g2
    go_wp2
    go_ret
    exact ⟨s, rfl, fun _ => H.out.1, fun h => absurd H1.out h, K1.out.trans H.out.2 (fun _ _ _ h => h)⟩
  · have d1 : decide (D = 1) = false := decide_eq_false h1
    have H1 := Lib.hid h1
    rw [d1]
    clear h1 d1
    go_wp2_with fail
    refine (HS.out w1 K1.out).mono ?_
    rintro e w2 ⟨s, rfl, g1, g2⟩
    have H := Lib.hid (And.intro g1 g2)
    clear g1 g2
    go_wp2
    go_ret
    exact ⟨s, rfl, fun h => absurd h H1.out, fun _ => H.out.1, K1.out.trans H.out.2 (fun _ _ _ h => h)⟩
set_option maxHeartbeats 2000000 in
theorem ratshort_any (xn : Bool) (ua : Option Addr) (un uc : Nat) (U : Nat → Int) (da : Option Addr) (dn dc : Nat) (D : Nat → Int) (w : World) (hu : Rd w ua un U) (hU : WF U un) (hun : un < 22) (hd : Rd w da dn D) (hD : WF D dn) (hdn : dn < 22) (hd0 : val D dn ≠ 0) (hg : Glob w) :
    Calls Tryz.prog 23 #[.agg #[.bool xn, .slice ua un uc, .slice da dn dc]] w (ShortP w (xn && decide (val U un ≠ 0)) (val U un) (val D dn)) := by
  have kA : Chg zNone w (w.alloc (.cells #[.bool xn, .slice ua un uc, .slice da dn dc] 31)) := (Chg.refl _ _).alloc _
  have HR := Lib.hid (rat_any xn ua un uc U da dn dc D _ (rd_far hu kA (fun _ _ _ _ _ h => h)) hU (by omega) (rd_far hd kA (fun _ _ _ _ _ h => h)) hD (by omega))
  have HK := Lib.hid (And.intro kA (And.intro hg hd0))
  have f0 := cell?_alloc_new w #[.bool xn, .slice ua un uc, .slice da dn dc] 31 0 (.bool xn) rfl
  have f1 := cell?_alloc_new w #[.bool xn, .slice ua un uc, .slice da dn dc] 31 1 (.slice ua un uc) rfl
  have f2 := cell?_alloc_new w #[.bool xn, .slice ua un uc, .slice da dn dc] 31 2 (.slice da dn dc) rfl
  clear hu hU hd hD kA hg hd0
  go_enter Tryz.func23, Tryz.ntmps23
  go_wp2_with fail
  refine HR.out.mono ?_
  rintro e w1 ⟨zb, a, n, c, b, m, d, rfl, g1, g2, g3, g4, g5, g6, g7⟩
  have hm0 : 0 < m := by
    rcases Nat.eq_zero_or_pos m with h | h
    · subst h; exact absurd g6.v.symm HK.out.2.2
    · exact h
  have HS := Lib.hid (RatString_any zb _ a n c U (val U un) b m d D (val D dn) w1 g5.ic g6.ic (ratp_nums g5 (by omega)) g5.nm g5.v (by omega) (ratp_nums g6 (by omega)) g6.nm g6.v (by omega) hm0 (HK.out.2.1.far (HK.out.1.trans g7 (fun _ _ _ h => h))))
  have H7 := Lib.hid (HK.out.1.trans g7 (fun _ _ _ h => h))
  clear g1 g2 g3 g4 g5 g6 g7 hm0
  go_wp2_with fail
  refine HS.out.mono ?_
  rintro e w2 ⟨s, rfl, h0, h1, h2⟩
  have H := Lib.hid (And.intro h0 (And.intro h1 h2))
  clear h0 h1 h2
  go_wp2
  go_ret
  exact ⟨s, rfl, H.out.1, H.out.2.1, H7.out.trans H.out.2.2 (fun _ _ _ h => h)⟩
end Go.Proofs.YtmgfajamanakcaaGreatDoor
namespace Go.Proofs.YtmgfajamanakcaaGreatDoor
set_option linter.unusedVariables false
set_option linter.unusedSimpArgs false
set_option maxRecDepth 100000
theorem DigW.unique {X Y : Nat → Int} {lo hi lo' hi' : Nat} {V : Int} (h : DigW X lo hi V) (k : DigW Y lo' hi' V) (e : hi - lo = hi' - lo') : ∀ i, i < hi - lo → X (lo + i) = Y (lo' + i) := by
  obtain ⟨a1, a2, a3, a4⟩ := h
  obtain ⟨b1, b2, b3, b4⟩ := k
  intro i hlt
  have e1 := a4 (hi - lo - 1 - i) (by omega)
  have e2 := b4 (hi - lo - 1 - i) (by omega)
  rw [show hi - 1 - (hi - lo - 1 - i) = lo + i by omega] at e1
  rw [show hi' - 1 - (hi - lo - 1 - i) = lo' + i by omega] at e2
  rw [e1, e2]
theorem len_unique {V : Int} {n m : Nat} (h0 : V < 10 ^ n) (h1 : n = 1 ∨ 10 ^ (n - 1) ≤ V) (hn : 0 < n) (k0 : V < 10 ^ m) (k1 : m = 1 ∨ 10 ^ (m - 1) ≤ V) (hm : 0 < m) : n = m := by
  rcases Nat.lt_trichotomy n m with g | g | g
  · exfalso
    rcases k1 with k1 | k1
    · omega
    · have := ten_le (show n ≤ m - 1 by omega); omega
  · exact g
  · exfalso
    rcases h1 with h1 | h1
    · omega
    · have := ten_le (show m ≤ n - 1 by omega); omega
theorem TextW.dec {B : Nat → Int} {n : Nat} {neg : Bool} {V : Int} (h : TextW B n neg V) {t : ByteArray} (k : DecS t V) : n = t.size + (if neg = true then 1 else 0) ∧ (neg = true → B 0 = 45) ∧ ∀ i, i < t.size → B ((if neg = true then 1 else 0) + i) = byteAt t i := by
  obtain ⟨m, hm, h1, h2, h3, h4⟩ := h
  obtain ⟨k1, k2, k3⟩ := k
  subst hm
  have hl : n - (if neg = true then 1 else 0) = t.size := by
    refine len_unique h3.2.2.1 ?_ (by omega) (by have := k1.2.2.1; rwa [Nat.sub_zero] at this) k3 k2
    rcases h4 with h4 | h4
    · left; omega
    · right; rwa [show n - (if neg = true then 1 else 0) - 1 = n - 1 - (if neg = true then 1 else 0) by omega]
  refine ⟨by omega, h1, fun i hi => ?_⟩
  have := h3.unique k1 (by omega) i (by omega)
  rwa [Nat.zero_add] at this
theorem byteAt_app (s t : ByteArray) (i : Nat) : byteAt (s ++ t) i = if i < s.size then byteAt s i else byteAt t (i - s.size) := by
  unfold byteAt
  rw [ByteArray.data_append, Array.toList_append, List.getD_eq_getElem?_getD, List.getD_eq_getElem?_getD, List.getD_eq_getElem?_getD]
  by_cases h : i < s.size
  · rw [if_pos h, List.getElem?_append_left (by simpa using h)]
  · rw [if_neg h, List.getElem?_append_right (by simpa using h)]
    rfl
theorem NumS.eq {s t : ByteArray} {neg : Bool} {V : Int} (h : NumS s neg V) (k : DecS t V) : s = if neg = true then (⟨#[45]⟩ : ByteArray) ++ t else t := by
  obtain ⟨h1, h2, h3⟩ := TextW.dec h k
  cases neg with
  | true =>
    simp only [if_true] at h1 h3 ⊢
    have hs1 : (⟨#[45]⟩ : ByteArray).size = 1 := rfl
    refine bytes_ext (by rw [ByteArray.size_append, hs1, h1]; omega) (fun i hi => ?_)
    rw [byteAt_app, hs1]
    by_cases h0 : i < 1
    · rw [if_pos h0]
      obtain rfl : i = 0 := by omega
      rw [h2 rfl]; rfl
    · rw [if_neg h0]
      have := h3 (i - 1) (by omega)
      rwa [show 1 + (i - 1) = i by omega] at this
  | false =>
    have e : (if false = true then 1 else 0) = 0 := rfl
    rw [e] at h1 h3
    refine bytes_ext (by simpa using h1) (fun i hi => ?_)
    have := h3 i (by omega)
    rwa [Nat.zero_add] at this
theorem FracS.eq {s t u : ByteArray} {neg : Bool} {V D : Int} (h : FracS s neg V D) (k : DecS t V) (l : DecS u D) : s = (if neg = true then (⟨#[45]⟩ : ByteArray) ++ t else t) ++ (⟨#[47]⟩ : ByteArray) ++ u := by
  obtain ⟨m1, m2, hn, h1, h2, h3⟩ := h
  have hN : NumS (strOf (byteAt s) m1) neg V := by
    unfold NumS
    rw [strOf_size]
    exact h1.congr (fun i hi => strOf_at _ _ _ hi (h1.byte i hi))
  have hD : NumS (strOf (fun i => byteAt s (m1 + 1 + i)) m2) false D := by
    unfold NumS
    rw [strOf_size]
    exact h3.congr (fun i hi => strOf_at _ _ _ hi (h3.byte i hi))
  have e1 := hN.eq k
  have e2 := hD.eq l
  simp only [Bool.false_eq_true, if_false] at e2
  rw [← e1, ← e2]
  have hs1 : (⟨#[47]⟩ : ByteArray).size = 1 := rfl
  refine bytes_ext (by rw [ByteArray.size_append, ByteArray.size_append, strOf_size, strOf_size, hs1]; exact hn) (fun i hi => ?_)
  rw [byteAt_app, byteAt_app, ByteArray.size_append, strOf_size, hs1]
  by_cases a : i < m1
  · rw [if_pos (by omega), if_pos a, strOf_at _ _ _ a (h1.byte i a)]
  · by_cases b : i < m1 + 1
    · rw [if_pos b, if_neg a]
      obtain rfl : i = m1 := by omega
      rw [h2, Nat.sub_self]; rfl
    · rw [if_neg b, strOf_at (fun i => byteAt s (m1 + 1 + i)) m2 (i - (m1 + 1)) (by omega) (h3.byte _ (by omega))]
      show _ = byteAt s (m1 + 1 + (i - (m1 + 1)))
      rw [show m1 + 1 + (i - (m1 + 1)) = i by omega]
end Go.Proofs.YtmgfajamanakcaaGreatDoor
namespace Go.Proofs.YtmgfajamanakcaaGreatDoor.Si
set_option linter.unusedVariables false
set_option linter.unusedSimpArgs false
open Go Go.RowKit
set_option maxRecDepth 100000
theorem natv_lt {w : World} {a : Option Addr} {n c : Nat} {V : Int} (h : NatV w a n c V) : V < SB ^ n := by
  obtain ⟨_, _, A, _, f1, _, rfl⟩ := h
  exact vs_lt f1
theorem two_le_ten (k : Nat) : (2 : Int) ^ k ≤ 10 ^ k := by
  induction k with
  | zero => simp
  | succ k ih =>
    rw [Int.pow_succ, Int.pow_succ]
    have := ten_pos k
    omega
theorem conv_digit (w1 : World) {d : Int} (h0 : 0 ≤ d) (h1 : d ≤ 9) :
    (convert 100 9 (.slice (some ⟨w1.heap.size, 0, none⟩) 1 1)).run Tryz.prog (w1.alloc (.cells #[.int .u8 (48 + d)] 5)) = .ok (.string ⟨#[UInt8.ofNat (48 + d).toNat]⟩) (w1.alloc (.cells #[.int .u8 (48 + d)] 5)) := by
  have hb : Lib.Bytes (w1.alloc (.cells #[.int .u8 (48 + d)] 5)) w1.heap.size 0 ⟨#[UInt8.ofNat (48 + d).toNat]⟩ := fun i hi => by
    have hi0 : i = 0 := by
      have : (⟨#[UInt8.ofNat (48 + d).toNat]⟩ : ByteArray).size = 1 := rfl
      omega
    subst hi0
    rw [cell?_alloc_new w1 #[.int .u8 (48 + d)] 5 0 (.int .u8 (48 + d)) rfl]
    congr 2
    show 48 + d = (((UInt8.ofNat (48 + d).toNat).toNat : Nat) : Int)
    rw [UInt8.toNat_ofNat']
    omega
  exact Lib.run_convert_whole (P := Tryz.prog) _ 100 5 9 Tryz.underlying100 Tryz.underlying5 Tryz.underlying9 w1.heap.size 0 ⟨#[UInt8.ofNat (48 + d).toNat]⟩ hb 1
theorem cons_digit (t : ByteArray) {d : Int} (h0 : 0 ≤ d) (h1 : d ≤ 9) : ((⟨#[UInt8.ofNat (48 + d).toNat]⟩ : ByteArray) ++ t).size = t.size + 1 ∧ byteAt ((⟨#[UInt8.ofNat (48 + d).toNat]⟩ : ByteArray) ++ t) 0 = 48 + d ∧ ∀ i, byteAt ((⟨#[UInt8.ofNat (48 + d).toNat]⟩ : ByteArray) ++ t) (i + 1) = byteAt t i := by
  have e : ((⟨#[UInt8.ofNat (48 + d).toNat]⟩ : ByteArray) ++ t).data.toList = UInt8.ofNat (48 + d).toNat :: t.data.toList := by
    rw [ByteArray.data_append]
    simp
  refine ⟨?_, ?_, fun i => ?_⟩
  · rw [ByteArray.size_append]
    show 1 + t.size = t.size + 1
    omega
  · unfold byteAt
    rw [e]
    show (((UInt8.ofNat (48 + d).toNat).toNat : Nat) : Int) = 48 + d
    rw [UInt8.toNat_ofNat']
    omega
  · unfold byteAt
    rw [e]
    rfl
def DgRel (w : World) (V : Int) (gk : Nat) (s0 s3 : Value) (wc : World) : Prop :=
  ∃ a n c A t, s0 = .slice a n c ∧ s3 = .string t ∧ n < 1048576 ∧ Hid (NatV wc a n c A ∧ A = V / 10 ^ t.size ∧ DigW (byteAt t) 0 t.size (V % 10 ^ t.size) ∧ (t.size = 0 ∨ 0 < V / 10 ^ (t.size - 1)) ∧ gk = A.toNat ∧ Chg zNone w wc)
def DigP (w : World) (V : Int) (e : Ending) (w' : World) : Prop := ∃ t, e = .returned (.string t) ∧ DecS t V ∧ Chg zNone w w'
set_option maxHeartbeats 2000000 in
theorem digits_any (a : Option Addr) (n c : Nat) (V : Int) (w : World) (h : NatV w a n c V) (hn : n < 1048576) : Calls Tryz.prog 19 #[.slice a n c] w (DigP w V) := by
  have hz := h.zero
  have hV0 := h.nonneg
  have H := Lib.hid (And.intro h (And.intro hz hV0))
  clear h hz hV0
  by_cases hn0 : n = 0
  · have d1 : ((n : Int) == 0) = true := by simp [hn0]
    have d1' : (n == 0) = true := by simp [hn0]
    have HV : Hid (V = 0) := H.out.2.1.1 hn0
    clear hn0
    go_enter Tryz.func19, Tryz.ntmps19
    go_wp2
    go_ret
    refine ⟨_, rfl, ?_, Chg.refl _ _⟩
    rw [HV.out]
    refine ⟨⟨by decide, by decide, by decide, fun j hj => ?_⟩, by decide, Or.inl (by decide)⟩
    have : j = 0 := by
      have e : (⟨#[48]⟩ : ByteArray).size = 1 := rfl
      omega
    subst this
    rfl
  · have d1 : ((n : Int) == 0) = false := by simp [hn0]
    have d1' : (n == 0) = false := by simp [hn0]
    obtain ⟨n0, hn00⟩ : ∃ n0, n0 = n := ⟨_, rfl⟩
    have hn0b : n0 < 1048576 := by omega
    rw [← hn00] at H
    go_enter Tryz.func19, Tryz.ntmps19
    go_wp2_with fail
    go_loopg [0, 3, 4, 5] V.toNat (fun gk s0 s3 s4 s5 wc => DgRel w V gk s0 s3 wc)
    case atStart => exact ⟨a, n, c, V, ⟨#[]⟩, rfl, rfl, hn, by rw [← hn00]; exact H.out.1, by show V = V / 10 ^ 0; rw [Int.pow_zero, Int.ediv_one], by
      show DigW _ 0 0 (V % 10 ^ 0)
      rw [Int.pow_zero, Int.emod_one]; exact DigW.nil, Or.inl rfl, rfl, Chg.refl _ _⟩
    case round =>
      obtain ⟨a, n, c, A, t, rfl, rfl, hn, HL⟩ := hrel
      by_cases hm0 : n = 0
      · have g1 : decide ((0 : Int) < (n : Int)) = false := decide_eq_false (by omega)
        have g1' : decide (0 < n) = false := decide_eq_false (by omega)
        have HA : Hid (A = 0) := HL.out.1.zero.1 hm0
        clear hm0
        go_wp2
        go_ret
        obtain ⟨e1, e2, e3, e4, e5, e6⟩ := HL.out
        rw [HA.out] at e2
        have hVp : V ≠ 0 := fun h => hn0 (by rw [← hn00]; exact H.out.2.1.2 h)
        have hV0 := H.out.2.2
        have hlt : V < 10 ^ t.size := by
          have := Int.lt_mul_ediv_self_add (ten_pos t.size) (x := V)
          rw [← e2] at this
          omega
        have hs : 0 < t.size := by
          rcases Nat.eq_zero_or_pos t.size with h0 | h0
          · rw [h0, Int.pow_zero] at hlt; omega
          · exact h0
        rw [Int.emod_eq_of_lt hV0 hlt] at e3
        refine ⟨t, rfl, ⟨e3, hs, Or.inr ?_⟩, e6⟩
        rcases e4 with h | h
        · omega
        · have h5 : 1 ≤ V / 10 ^ (t.size - 1) := by omega
          rw [Int.le_ediv_iff_mul_le (ten_pos _)] at h5
          omega
      · have g1 : decide ((0 : Int) < (n : Int)) = true := decide_eq_true (by omega)
        have g1' : decide (0 < n) = true := decide_eq_true (by omega)
        have HB := Lib.hid (byDigit_any a n c A 10 wr HL.out.1 (by omega) (by omega) (by omega))
        go_wp2_with fail
        refine HB.out.mono ?_
        rintro e w1 ⟨qa, qn, qc, rfl, g1, g2⟩
        have HG := Lib.hid (And.intro g1 g2)
        have hqn : qn ≤ n := g1.len (by
          have := HL.out.1.nonneg
          have := Int.ediv_le_self 10 this
          have := natv_lt HL.out.1
          omega)
        obtain ⟨d, hd⟩ : ∃ d, A % 10 = d := ⟨_, rfl⟩
        rw [hd]
        have hd0 : 0 ≤ d := by omega
        have hd1 : d ≤ 9 := by omega
        have HD := Lib.hid hd
        clear g1 g2 hd
        have hcv := conv_digit w1 hd0 hd1
        obtain ⟨t2, ht2⟩ : ∃ t2, (⟨#[UInt8.ofNat (48 + d).toNat]⟩ : ByteArray) ++ t = t2 := ⟨_, rfl⟩
        have hcs := cons_digit t hd0 hd1
        rw [ht2] at hcs
        have HT := Lib.hid (And.intro hcs HG.out)
        obtain ⟨b1, hb1⟩ : ∃ b1, b1 = (⟨#[UInt8.ofNat (48 + d).toNat]⟩ : ByteArray) := ⟨_, rfl⟩
        have hb1s : b1.size = 1 := by rw [hb1]; rfl
        rw [← hb1] at hcv ht2
        have hts : t.size < 33554432 := by
          rcases HL.out.2.2.2.1 with h | h
          · omega
          · have h5 : 1 ≤ V / 10 ^ (t.size - 1) := by omega
            rw [Int.le_ediv_iff_mul_le (ten_pos _)] at h5
            have h6 := natv_lt H.out.1
            rw [SB_pow] at h6
            have h7 := two_le_ten (t.size - 1)
            rcases Nat.lt_or_ge (t.size - 1) (16 * n0) with g | g
            · omega
            · have := ipow_le (b := 2) (by decide) g
              omega
        have hcc : ¬ (b1.size + t.size > 9223372036854775807) := by omega
        have hcc2 : b1.size + t.size ≤ 9223372036854775807 := by omega
        have HTS := Lib.hid hts
        clear hcs hb1 hts
        go_wp2
        go_roundg ((A / 10).toNat)
        case measure =>
          have h1 := HL.out.2.2.2.2.1
          have h2 := HL.out.1.nonneg
          have h3 : A ≠ 0 := fun h => hm0 (HL.out.1.zero.2 h)
          omega
        case rel =>
          obtain ⟨⟨q1, q2, q3⟩, q4, q5⟩ := HT.out
          have hkal : Chg zNone w1 (w1.alloc (.cells #[.int .u8 (48 + d)] 5)) := (Chg.refl _ _).alloc _
          obtain ⟨e1, e2, e3, e4, e5, e6⟩ := HL.out
          have hA0 : 0 < A := by
            have h2 := e1.nonneg
            have h3 : A ≠ 0 := fun h => hm0 (e1.zero.2 h)
            omega
          refine ⟨qa, qn, qc, A / 10, t2, rfl, rfl, by omega, q4.far hkal, ?_, ?_, ?_, rfl, (e6.trans q5 (fun _ _ _ h => h)).trans hkal (fun _ _ _ h => h)⟩
          · rw [e2, q1, Int.pow_succ, Int.ediv_ediv_of_nonneg (Int.le_of_lt (ten_pos _))]
          · rw [q1]
            have h0 : DigW (byteAt t2) (0 + 1) (t.size + 1) (V % 10 ^ (t.size + 1 - (0 + 1))) := by
              obtain ⟨z1, z2, z3, z4⟩ := e3
              refine ⟨by omega, by rw [show t.size + 1 - (0 + 1) = t.size by omega]; exact z2, by rw [show t.size + 1 - (0 + 1) = t.size by omega]; rw [Nat.sub_zero] at z3; exact z3, fun j hj => ?_⟩
              have h7 : t.size - j = (t.size - 1 - j) + 1 := by omega
              simp only [Nat.zero_add, Nat.add_sub_cancel]
              rw [h7, q3, z4 j (by omega)]
            exact h0.next (by omega) (by
              rw [q2, show t.size + 1 - (0 + 1) = t.size by omega, ← e2]
              have := HD.out
              omega)
          · right
            rw [q1, Nat.add_sub_cancel, ← e2]
            exact hA0
end Go.Proofs.YtmgfajamanakcaaGreatDoor.Si
