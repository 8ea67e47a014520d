/- Part of the proof of FnParse: what the functions that it reaches do, as contracts. Conditions: those that each theorem names. -/
import Derived.Test.YtmgfajamanakcaaGreatDoorD43
import Derived.Deep.RegionHeld3
import Derived.StillTailTactics
namespace Go.Proofs.YtmgfajamanakcaaGreatDoor
set_option linter.unusedVariables false
set_option linter.unusedSimpArgs false
open Go Go.RowKit
set_option maxRecDepth 100000
theorem nat_one_word {w : World} {a : Option Addr} {n c : Nat} {X : Nat → Int} {x : Int} (h1 : n ≤ c) (h2 : ZOK w a c) (h3 : Rd w a n X) (h4 : WF X n) (h5 : Norm X n) (h6 : val X n = x) (hx : 0 < x) (hx2 : x < 18446744073709551616) : n = 1 ∧ NatIn w a 1 c (fun _ => x) := by
  have hn : n ≤ 1 := norm_le h4 h5 (by rw [h6, Int.pow_one]; unfold BB; omega)
  have hn1 : n = 1 := by
    rcases Nat.eq_zero_or_pos n with h | h
    · subst h; rw [← h6] at hx; exact absurd hx (by show ¬ (0 : Int) < 0; omega)
    · omega
  subst hn1
  have hX : X 0 = x := by rw [← h6]; simp [val]
  refine ⟨rfl, ?_, fun i _ => ⟨by omega, hx2⟩, h1, by omega, h2.aok⟩
  rcases h3 with h | ⟨b, o, e, hw⟩
  · omega
  · refine Or.inr ⟨b, o, e, fun i hi => ?_⟩
    obtain rfl : i = 0 := by omega
    have := hw 0 (by omega)
    rwa [hX] at this
theorem bb_lt {a b : Int} {n m : Nat} (h0 : 0 ≤ a) (ha : a < BB ^ n) (hb0 : 0 ≤ b) (hb : b < BB ^ m) : a * b < BB ^ (n + m) := by
  rw [Int.pow_add]
  have h1 : a * b ≤ a * BB ^ m := Int.mul_le_mul_of_nonneg_left (Int.le_of_lt hb) h0
  have h2 : a * BB ^ m < BB ^ n * BB ^ m := Int.mul_lt_mul_of_pos_right ha (BBn_pos m)
  omega
theorem TextW.signed {B Y : Nat → Int} {n m : Nat} {sg : Bool} {V : Int} (hn : n = (if sg = true then 1 else 0)) (hs : sg = true → B 0 = 45) (h : TextW Y m false V) : TextW (cat B n Y) (n + m) sg V := by
  obtain ⟨l, hl, h1, h2, h3, h4⟩ := h
  simp at hl
  subst hl
  refine ⟨n, hn, fun h => ?_, by omega, ?_, ?_⟩
  · have : n = 1 := by rw [hn, if_pos h]
    unfold cat
    rw [if_pos (by omega)]
    exact hs h
  · have := h3.slide n (Y := cat B n Y) (fun i _ _ => by unfold cat; rw [if_neg (by omega)]; congr 1; omega)
    rwa [Nat.add_zero] at this
  · rcases h4 with h4 | h4
    · left; omega
    · right; rwa [show n + m - 1 - n = m - 1 - 0 by omega]
theorem pad_text {B Y : Nat → Int} {l i m k : Nat} {sg : Bool} {Q R a : Int} (h : TextW B l sg Q) (hd : B l = 46) (hz : ∀ j, l + 1 ≤ j → j < l + 1 + i → B j = 48) (hr : TextW Y m false R) (hk : i + m = k) (hk0 : 0 < k) (hQ : a / 10 ^ k = Q) (hR : a % 10 ^ k = R) :
    PointW (cat B (l + 1 + i) Y) (l + 1 + i + m) sg a k := by
  obtain ⟨t, ht, r1, r2, r3, r4⟩ := hr
  simp at ht
  subst ht
  refine ⟨l, ?_, Or.inr ⟨hk0, by omega, ?_, ?_⟩⟩
  · rw [hQ]
    exact h.congr (fun j hj => by unfold cat; rw [if_pos (by omega)])
  · unfold cat; rw [if_pos (by omega)]; exact hd
  · rw [hR]
    have h1 : DigW (cat B (l + 1 + i) Y) (l + 1) (l + 1 + i) 0 := dig_noughts (fun j h1 h2 => by unfold cat; rw [if_pos (by omega)]; exact hz j h1 h2) (by omega)
    have h2 := r3.slide (l + 1 + i) (Y := cat B (l + 1 + i) Y) (fun j _ _ => by unfold cat; rw [if_neg (by omega)]; congr 1; omega)
    rw [Nat.add_zero] at h2
    have := h1.join h2
    rwa [Int.zero_mul, Int.zero_add] at this
theorem text_len {Y : Nat → Int} {m k : Nat} {R : Int} (h : TextW Y m false R) (hk : 0 < k) (hR : R < 10 ^ k) : m ≤ k := by
  obtain ⟨t, ht, r1, r2, r3, r4⟩ := h
  simp at ht
  subst ht
  rcases r4 with h4 | h4
  · omega
  · rcases Nat.lt_or_ge k m with g | g
    · have := ten_le (show k ≤ m - 1 - 0 by omega)
      omega
    · exact g
theorem rest_end {w0 W W' : World} {p : Nat} {d : Option SD} (h : Fst w0 W p d) (r : RestPost W p d 0 W') : Chg (zGe w0.heap.size) w0 W' := by
  obtain ⟨d3, _, _, k⟩ := r
  refine h.k.trans k ?_
  intro b o hb hz
  cases d with
  | none => exact hz.elim
  | some s =>
    show w0.heap.size ≤ b
    rcases Nat.lt_or_ge b w0.heap.size with hh | hh
    · exact absurd hz.1 ((h.old b hh).2 s rfl).1
    · exact hh
theorem dec_big : (10 : Int) ^ 100 < BB ^ 6 := by decide +kernel
set_option maxHeartbeats 16000000 in
theorem FloatString_frac (rb : Nat) (sg : Bool) (xa : Option Addr) (xn xc : Nat) (X : Nat → Int) (V : Int) (ya : Option Addr) (yn yc : Nat) (Y : Nat → Int) (D : Int) (k : Nat) (w : World) (hA : IntC w rb 0 sg xa xn xc) (hB : IntC w rb 2 false ya yn yc) (hx : NatIn w xa xn xc X) (hnx : Norm X xn) (hv : val X xn = V) (hn10 : xn ≤ 10)
    (hy : NatIn w ya yn yc Y) (hny : Norm Y yn) (hd : val Y yn = D) (hm10 : yn ≤ 10) (hD1 : D ≠ 1) (hD0 : 0 < D) (hg : Glob w) (hk : k ≤ 100) :
    Calls Tryz.prog 59 #[.pointer (some ⟨rb, 0, none⟩), .int .i64 (k : Int)] w (FsP w sg (decQ V D (10 ^ k)) k) := by
  have hm0 : 0 < yn := by
    rcases Nat.eq_zero_or_pos yn with h | h
    · subst h; rw [← hd] at hD0; exact absurd hD0 (by show ¬ (0 : Int) < 0; omega)
    · exact h
  have HI := Lib.hid (IsInt_any rb false ya yn yc Y D w hB hy hny hd hm0)
  have HV : Hid (0 ≤ V ∧ V < BB ^ 10 ∧ 0 < D ∧ D < BB ^ 10) := by
    refine ⟨by rw [← hv]; exact val_nonneg hx.wf, ?_, hD0, ?_⟩
    · rw [← hv]; exact Int.lt_of_lt_of_le (val_lt hx.wf) (ipow_le (by decide) hn10)
    · rw [← hd]; exact Int.lt_of_lt_of_le (val_lt hy.wf) (ipow_le (by decide) hm10)
  have aokl : ∀ {W : World} {a : Option Addr} {c : Nat}, AOK W a c → ∀ b o, a = some ⟨b, o, none⟩ → b < W.heap.size := by
    intro W a c h b o e
    rcases h with ⟨e2, _⟩ | ⟨b2, o2, e2, hp, _⟩
    · rw [e2] at e; cases e
    · rw [e2] at e; injection e with e; injection e with e3 _; rw [← e3]; exact hp.lt
  have HE : Hid (∀ W, Chg zNone w W → W.cell? ⟨rb, 0, none⟩ = some (.bool sg) ∧ W.cell? ⟨rb, 1, none⟩ = some (.slice xa xn xc) ∧ W.cell? ⟨rb, 3, none⟩ = some (.slice ya yn yc) ∧ OldN W.heap.size W xa xn xc V ∧ OldN W.heap.size W ya yn yc D ∧ Glob W) := fun W k => by
    have hx' : NatIn W xa xn xc X := ⟨rd_far hx.rd k (fun _ _ _ _ _ h => h), hx.wf, hx.le, hx.small, hx.aok.chg k⟩
    have hy' : NatIn W ya yn yc Y := ⟨rd_far hy.rd k (fun _ _ _ _ _ h => h), hy.wf, hy.le, hy.small, hy.aok.chg k⟩
    exact ⟨k.cell hA.1 (fun h => h), k.cell hA.2.1 (fun h => h), k.cell hB.2.1 (fun h => h), ⟨⟨X, hx', hnx, hv⟩, aokl hx'.aok⟩, ⟨⟨Y, hy', hny, hd⟩, aokl hy'.aok⟩, hg.far k⟩
  have hxn2 : Hid (xn ≤ 10 ∧ yn ≤ 10) := ⟨hn10, hm10⟩
  clear hA hB hx hnx hv hy hny hd hg hm0 hD0 aokl hn10 hm10
  have d1 : decide (D = 1) = false := decide_eq_false hD1
  clear hD1
  go_enter_defers Tryz.func59, Tryz.ntmps59
  go_wp2_with fail
  refine HI.out.mono ?_
  rintro e w1 ⟨rfl, k1⟩
  rw [d1]
  clear d1
  obtain ⟨c0, c1, c3, ox, oy, g1⟩ := HE.out w1 k1
  have K1 := Lib.hid k1
  have hrb := lt_of_cell c0
  have h9 := lt_of_cell g1.c9
  have HO := Lib.hid (And.intro ox (And.intro oy (And.intro g1 (And.intro c0 (And.intro c3 (And.intro hrb h9))))))
  clear k1 ox oy g1 HE HI
  have HGs := Lib.hid (getStack_any w1)
  -- what any later world gives
  have HL : Hid (∀ W, Chg (zGe w1.heap.size) w1 W → W.cell? ⟨rb, 0, none⟩ = some (.bool sg) ∧ W.cell? ⟨rb, 3, none⟩ = some (.slice ya yn yc) ∧ OldN w1.heap.size W xa xn xc V ∧ OldN w1.heap.size W ya yn yc D ∧ Glob W) := fun W k => by
    obtain ⟨h1, h2, h3, h4, h5, h6, h7⟩ := HO.out
    exact ⟨k.cell h4 (fun h => by have : w1.heap.size ≤ rb := h; omega), k.cell h5 (fun h => by have : w1.heap.size ≤ rb := h; omega), h1.chg k, h2.chg k, h3.chg k (fun b o hb h => by have : w1.heap.size ≤ b := h; omega)⟩
  go_wp2_with fail
  refine HGs.out.mono ?_
  rintro e wS ⟨rfl, hwS⟩
  have HF : Hid (Fst w1 wS w1.heap.size none) := by rw [hwS]; exact Fst.new
  have kS : Chg zNone w1 wS := by rw [hwS]; exact (Chg.refl _ _).alloc _
  have s1 := kS.cell c1 (fun h => h)
  have s3 := kS.cell c3 (fun h => h)
  have HDv : Hid (∀ W, Chg zNone wS W → Calls Tryz.prog 102 #[.slice none 0 0, .pointer (some ⟨w1.heap.size, 0, none⟩), .slice none 0 0, .slice xa xn xc, .slice ya yn yc] W (DivN w1 W w1.heap.size none none V D)) := fun W k => by
    have hF := HF.out.far k
    obtain ⟨_, _, ox, oy, hg⟩ := HL.out W hF.k
    exact nm_div hF (Or.inl ⟨rfl, rfl⟩) (fun b o e => (by cases e)) ox.ex (fun b o e => hF.old b (ox.old b o e)) (Or.inr Diff.none) (by have := hxn2.out.1; omega) oy HV.out.2.2.1 (by have := hxn2.out.2; omega) (by have := HO.out.2.2.2.2.2.2; omega) hg
  clear hwS kS c0 c1 c3
  go_upto_region 13 with fail
  go_cut [8, 9] from 38 to 52 (fun s8 s9 wc => ∃ d qa qn qc ra rn rc, s8 = .slice qa qn qc ∧ s9 = .slice ra rn rc ∧ Hid (Fst w1 wc w1.heap.size d ∧ NmA w1.heap.size wc w1.heap.size d qa qn qc (V / D) ∧ NmA w1.heap.size wc w1.heap.size d ra rn rc (V % D) ∧ Diff qa ra))
  case first =>
    refine wp_region_noPanic ?_
    refine wp_region_any (by kernel_rfl) ?_
    change wpAny _ _ _ _ _ _ _ (World.drew _)
    refine wpAny_take (i := 0) (v := ?_) rfl (by kernel_rfl) (by kernel_rfl) (by kernel_rfl) (fun _ _ _ h => False.elim h) (Or.inl ⟨by rfl, ?_⟩) ?_
    rotate_left 1
    · intro w9
      go_simp
      try with_reducible rfl
    try simp only [putL, putN, List.set_cons_zero, List.set_cons_succ]
    refine wpAny_take (i := 1) (v := ?_) rfl (by kernel_rfl) (by kernel_rfl) (by kernel_rfl) (fun _ _ _ h => False.elim h) (Or.inl ⟨by rfl, ?_⟩) ?_
    rotate_left 1
    · intro w9
      go_simp
      try with_reducible rfl
    try simp only [putL, putN, List.set_cons_zero, List.set_cons_succ]
    refine wpAny_take (i := 2) (v := ?_) rfl (by kernel_rfl) (by kernel_rfl) (by kernel_rfl) (fun _ _ _ h => False.elim h) (Or.inl ⟨by rfl, ?_⟩) ?_
    rotate_left 1
    · intro w9
      go_simp
      try with_reducible rfl
    try simp only [putL, putN, List.set_cons_zero, List.set_cons_succ]
    refine wpAny_take (i := 3) (v := ?_) rfl (by kernel_rfl) (by kernel_rfl) (by kernel_rfl) (fun _ _ _ h => False.elim h) (Or.inl ⟨by rfl, ?_⟩) ?_
    rotate_left 1
    · intro w9
      go_simp
      try with_reducible rfl
    try simp only [putL, putN, List.set_cons_zero, List.set_cons_succ]
    refine wpAny_take (i := 4) (v := ?_) rfl (by kernel_rfl) (by kernel_rfl) (by kernel_rfl) (fun _ _ _ h => False.elim h) (Or.inl ⟨by rfl, ?_⟩) ?_
    rotate_left 1
    · intro w9
      go_simp
      try with_reducible rfl
    try simp only [putL, putN, List.set_cons_zero, List.set_cons_succ]
    refine wpAny_take (i := 6) (v := ?_) rfl (by kernel_rfl) (by kernel_rfl) (by kernel_rfl) (fun _ _ _ h => False.elim h) (Or.inl ⟨by rfl, ?_⟩) ?_
    rotate_left 1
    · intro w9
      go_simp
      try with_reducible rfl
    try simp only [putL, putN, List.set_cons_zero, List.set_cons_succ]
    refine wpAny_take (i := 7) (v := ?_) rfl (by kernel_rfl) (by kernel_rfl) (by kernel_rfl) (fun _ _ _ h => False.elim h) (Or.inl ⟨by rfl, ?_⟩) ?_
    rotate_left 1
    · intro w9
      go_simp
      try with_reducible rfl
    try simp only [putL, putN, List.set_cons_zero, List.set_cons_succ]
    refine wpAny_take (i := 8) (v := ?_) rfl (by kernel_rfl) (by kernel_rfl) (by kernel_rfl) (fun _ _ _ h => False.elim h) (Or.inl ⟨by rfl, ?_⟩) ?_
    rotate_left 1
    · intro w9
      go_simp
      try with_reducible rfl
    try simp only [putL, putN, List.set_cons_zero, List.set_cons_succ]
    refine wpAny_take (i := 9) (v := ?_) rfl (by kernel_rfl) (by kernel_rfl) (by kernel_rfl) (fun _ _ _ h => False.elim h) (Or.inl ⟨by rfl, ?_⟩) ?_
    rotate_left 1
    · intro w9
      go_simp
      try with_reducible rfl
    try simp only [putL, putN, List.set_cons_zero, List.set_cons_succ]
    refine wpAny_ready (rs := [5, 10]) (by kernel_rfl) (by simp) ?_
    refine AllReady.cons rfl (fun K hK => ?_) (AllReady.cons rfl (fun K hK => ?_) AllReady.nil)
    · skip
      go_simp
      refine hK _ _ ?_
      clear hK K
      try simp only [putL, putN, List.set_cons_zero, List.set_cons_succ]
      refine wpAny_ready (rs := [10]) (by kernel_rfl) (by simp) ?_
      refine AllReady.cons rfl (fun K hK => ?_) AllReady.nil
      go_simp
      refine hK _ _ ?_
      clear hK K
      try simp only [putL, putN, List.set_cons_zero, List.set_cons_succ]
      refine wpAny_ready (rs := [11]) (by kernel_rfl) (by simp) ?_
      refine AllReady.cons rfl (fun K hK => ?_) AllReady.nil
      go_simp
      go_wp2_with (go_at_call 102; go_loud (refine (HDv.out _ (Chg.refl _ _).drew).mono ?_; rintro e w2 ⟨d', qa, qn, qc, ra, rn, rc, rfl, t1, t2, t3, t4, t5, t6, t7, t8⟩; have HT := Lib.hid (And.intro t1 (And.intro t3 (And.intro t4 t5))); clear t1 t2 t3 t4 t5 t6 t7 t8))
      try simp only [putL, putN, List.set_cons_zero, List.set_cons_succ]
      refine wpAny_take (i := 12) (v := ?_) rfl (by kernel_rfl) (by kernel_rfl) (by kernel_rfl) (fun _ _ _ h => False.elim h) (Or.inl ⟨by rfl, ?_⟩) ?_
      rotate_left 1
      · intro w9
        go_simp
        try with_reducible rfl
      try simp only [putL, putN, List.set_cons_zero, List.set_cons_succ]
      refine wpAny_take (i := 13) (v := ?_) rfl (by kernel_rfl) (by kernel_rfl) (by kernel_rfl) (fun _ _ _ h => False.elim h) (Or.inl ⟨by rfl, ?_⟩) ?_
      rotate_left 1
      · intro w9
        go_simp
        try with_reducible rfl
      try simp only [putL, putN, List.set_cons_zero, List.set_cons_succ]
      refine wpAny_take (i := 14) (v := ?_) rfl (by kernel_rfl) (by kernel_rfl) (by kernel_rfl) (fun _ _ _ h => False.elim h) (Or.inl ⟨by rfl, ?_⟩) ?_
      rotate_left 1
      · intro w9
        go_simp
        try with_reducible rfl
      try simp only [putL, putN, List.set_cons_zero, List.set_cons_succ]
      refine wpAny_take (i := 15) (v := ?_) rfl (by kernel_rfl) (by kernel_rfl) (by kernel_rfl) (fun _ _ _ h => False.elim h) (Or.inl ⟨by rfl, ?_⟩) ?_
      rotate_left 1
      · intro w9
        go_simp
        try with_reducible rfl
      try simp only [putL, putN, List.set_cons_zero, List.set_cons_succ]
      refine wpAny_take (i := 16) (v := ?_) rfl (by kernel_rfl) (by kernel_rfl) (by kernel_rfl) (fun _ _ _ h => False.elim h) (Or.inl ⟨by rfl, ?_⟩) ?_
      rotate_left 1
      · intro w9
        go_simp
        try with_reducible rfl
      try simp only [putL, putN, List.set_cons_zero, List.set_cons_succ]
      refine wpAny_done (by kernel_rfl) ?_ _
      refine NoPanic.normal ?_
      go_wp2
      go_meet
      exact ⟨d', qa, qn, qc, ra, rn, rc, rfl, rfl, HT.out⟩
    · skip
      go_simp
      refine hK _ _ ?_
      clear hK K
      try simp only [putL, putN, List.set_cons_zero, List.set_cons_succ]
      refine wpAny_ready (rs := [5]) (by kernel_rfl) (by simp) ?_
      refine AllReady.cons rfl (fun K hK => ?_) AllReady.nil
      go_simp
      refine hK _ _ ?_
      clear hK K
      try simp only [putL, putN, List.set_cons_zero, List.set_cons_succ]
      refine wpAny_ready (rs := [11]) (by kernel_rfl) (by simp) ?_
      refine AllReady.cons rfl (fun K hK => ?_) AllReady.nil
      go_simp
      go_wp2_with (go_at_call 102; go_loud (refine (HDv.out _ (Chg.refl _ _).drew).mono ?_; rintro e w2 ⟨d', qa, qn, qc, ra, rn, rc, rfl, t1, t2, t3, t4, t5, t6, t7, t8⟩; have HT := Lib.hid (And.intro t1 (And.intro t3 (And.intro t4 t5))); clear t1 t2 t3 t4 t5 t6 t7 t8))
      try simp only [putL, putN, List.set_cons_zero, List.set_cons_succ]
      refine wpAny_take (i := 12) (v := ?_) rfl (by kernel_rfl) (by kernel_rfl) (by kernel_rfl) (fun _ _ _ h => False.elim h) (Or.inl ⟨by rfl, ?_⟩) ?_
      rotate_left 1
      · intro w9
        go_simp
        try with_reducible rfl
      try simp only [putL, putN, List.set_cons_zero, List.set_cons_succ]
      refine wpAny_take (i := 13) (v := ?_) rfl (by kernel_rfl) (by kernel_rfl) (by kernel_rfl) (fun _ _ _ h => False.elim h) (Or.inl ⟨by rfl, ?_⟩) ?_
      rotate_left 1
      · intro w9
        go_simp
        try with_reducible rfl
      try simp only [putL, putN, List.set_cons_zero, List.set_cons_succ]
      refine wpAny_take (i := 14) (v := ?_) rfl (by kernel_rfl) (by kernel_rfl) (by kernel_rfl) (fun _ _ _ h => False.elim h) (Or.inl ⟨by rfl, ?_⟩) ?_
      rotate_left 1
      · intro w9
        go_simp
        try with_reducible rfl
      try simp only [putL, putN, List.set_cons_zero, List.set_cons_succ]
      refine wpAny_take (i := 15) (v := ?_) rfl (by kernel_rfl) (by kernel_rfl) (by kernel_rfl) (fun _ _ _ h => False.elim h) (Or.inl ⟨by rfl, ?_⟩) ?_
      rotate_left 1
      · intro w9
        go_simp
        try with_reducible rfl
      try simp only [putL, putN, List.set_cons_zero, List.set_cons_succ]
      refine wpAny_take (i := 16) (v := ?_) rfl (by kernel_rfl) (by kernel_rfl) (by kernel_rfl) (fun _ _ _ h => False.elim h) (Or.inl ⟨by rfl, ?_⟩) ?_
      rotate_left 1
      · intro w9
        go_simp
        try with_reducible rfl
      try simp only [putL, putN, List.set_cons_zero, List.set_cons_succ]
      refine wpAny_done (by kernel_rfl) ?_ _
      refine NoPanic.normal ?_
      go_wp2
      go_meet
      exact ⟨d', qa, qn, qc, ra, rn, rc, rfl, rfl, HT.out⟩
  case rest =>
    obtain ⟨d, qa, qn, qc, ra, rn, rc, rfl, rfl, H1⟩ := hcut
    clear HDv s1 s3 HF
    have hq0 : Hid (0 ≤ V / D ∧ V / D < BB ^ 10 ∧ 0 ≤ V % D ∧ V % D < D) := ⟨Int.ediv_nonneg HV.out.1 (by have := HV.out.2.2.1; omega), Int.lt_of_le_of_lt (Int.ediv_le_self _ HV.out.1) HV.out.2.1, Int.emod_nonneg _ (by have := HV.out.2.2.1; omega), Int.emod_lt_of_pos _ HV.out.2.2.1⟩
    have hte : Hid ((10 : Int) ^ k < BB ^ 6 ∧ 0 < (10 : Int) ^ k) := ⟨Int.lt_of_le_of_lt (ten_le hk) dec_big, ten_pos k⟩
    go_wp2_with fail
    refine (natOne_any wc).mono ?_
    rintro e w2 ⟨rfl, hw2⟩
    have H2 : Hid (Fst w1 w2 w1.heap.size d ∧ NmA w1.heap.size w2 w1.heap.size d qa qn qc (V / D) ∧ NmA w1.heap.size w2 w1.heap.size d ra rn rc (V % D) ∧ NmA w1.heap.size w2 w1.heap.size d (some ⟨wc.heap.size, 0, none⟩) 1 1 1 ∧ Diff qa ra ∧ Diff qa (some ⟨wc.heap.size, 0, none⟩) ∧ Diff ra (some ⟨wc.heap.size, 0, none⟩)) := by
      obtain ⟨h1, h2, h3, h4⟩ := H1.out
      have kA : Chg zNone wc w2 := by rw [hw2]; exact (Chg.refl _ _).alloc _
      exact ⟨h1.far kA, h2.far kA, h3.far kA, by rw [hw2]; exact nm_word 1 153 ⟨by decide, by decide⟩ (by decide) h1, h4, new_diff h2.lt, new_diff h3.lt⟩
    clear hw2 H1
    obtain ⟨oa, hoa⟩ : ∃ oa, oa = (some ⟨wc.heap.size, 0, none⟩ : Option Addr) := ⟨_, rfl⟩
    rw [← hoa] at H2 ⊢
    clear hoa
    obtain ⟨bk, hbk⟩ : ∃ b, decide ((0 : Int) < (k : Int)) = b := ⟨_, rfl⟩
    have hbk' : decide (0 < k) = bk := by
      rw [← hbk]
      by_cases h0 : k = 0
      · subst h0; rfl
      · exact (decide_eq_true (by omega)).trans (decide_eq_true (by omega)).symm
    have Hbk := Lib.hid hbk
    go_upto_if 55 with fail
    go_cut [10] from 54 to 61 (fun s10 wd => ∃ pa pn pc, s10 = .slice pa pn pc ∧ Hid (Fst w1 wd w1.heap.size d ∧ NmA w1.heap.size wd w1.heap.size d qa qn qc (V / D) ∧ NmA w1.heap.size wd w1.heap.size d ra rn rc (V % D) ∧ NmA w1.heap.size wd w1.heap.size d pa pn pc (10 ^ k) ∧ Diff qa ra ∧ Diff qa pa ∧ Diff ra pa))
    case first => as_aux_lemma =>
      cases bk with
      | false =>
        have Hk0 : Hid (k = 0) := by have := of_decide_eq_false Hbk.out; show k = 0; omega
        go_wp2_with fail
        go_meet
        obtain ⟨h1, h2, h3, h4, h5, h6, h7⟩ := H2.out
        exact ⟨_, _, _, rfl, h1, h2, h3, by rw [Hk0.out]; exact h4, h5, h6, h7⟩
      | true =>
        have Hk0 : Hid (k ≠ 0) := by have := of_decide_eq_true Hbk.out; show k ≠ 0; omega
        go_wp2_with fail
        refine (natTen_any w2).mono ?_
        rintro e w3 ⟨rfl, hw3⟩
        have hx10 : Hid (NatIn w3 (some ⟨w2.heap.size, 0, none⟩) 1 1 (fun _ => 10) ∧ Chg zNone w2 w3) := by
          have hc : w3.cell? ⟨w2.heap.size, 0, none⟩ = some (.int .u64 10) := by rw [hw3]; exact cell?_alloc_new w2 #[.int .u64 10] 153 0 (.int .u64 10) rfl
          refine ⟨⟨Or.inr ⟨_, _, rfl, fun i hi => ?_⟩, fun i _ => ⟨by decide, by decide⟩, Nat.le_refl _, by omega, Or.inr ⟨_, _, rfl, by rw [hw3]; exact PB.new w2 _ _, by omega⟩⟩, by rw [hw3]; exact (Chg.refl _ _).alloc _⟩
          obtain rfl : i = 0 := by omega
          exact hc
        clear hw3
        have HS := Lib.hid (setUint64_any none 0 0 (k : Int) w3 (Or.inl ⟨rfl, rfl⟩) ⟨by omega, by omega⟩)
        go_wp2_with fail
        refine HS.out.mono ?_
        rintro e w4 ⟨ua, un, uc, U, rfl, u1, u2, u3, u4, u5, u6, u7, u8⟩
        obtain ⟨rfl, hun⟩ := nat_one_word u1 u2 u3 u4 u5 u6 (by have := Hk0.out; omega) (by omega)
        have k34 : Chg zNone w3 w4 := u8.mono (fun _ _ _ h => (no_zone h).elim)
        have H4 := Lib.hid (And.intro hun k34)
        clear u1 u2 u3 u4 u5 u6 u7 u8 hun k34
        have k24 : Hid (Chg zNone w2 w4) := hx10.out.2.trans H4.out.2 (fun _ _ _ h => h)
        have HX : Hid (Calls Tryz.prog 104 #[.slice none 0 0, .pointer (some ⟨w1.heap.size, 0, none⟩), .slice (some ⟨w2.heap.size, 0, none⟩) 1 1, .slice ua 1 uc, .slice none 0 0, .bool false] w4 (NatRes w4 none 0 (10 ^ k))) := by
          have hg := (HL.out w4 ((H2.out.1.far k24.out).k)).2.2.2.2
          have h10 := hx10.out.1
          exact expNN_any (some ⟨w2.heap.size, 0, none⟩) ua 1 uc w1.heap.size 10 k w4 ⟨rd_far h10.rd H4.out.2 (fun _ _ _ _ _ h => h), h10.wf, h10.le, h10.small, h10.aok.chg H4.out.2⟩ H4.out.1 (by decide) (by have := Hk0.out; omega) (Int.lt_of_lt_of_le hte.out.1 (ipow_le (by decide) (by omega))) hg.c1 hg.c5 hg.c6
        go_wp2_with fail
        refine HX.out.mono ?_
        intro e w5 h5
        obtain ⟨h1, h2, h3, h4, h5', h6, h7⟩ := H2.out
        obtain ⟨pa, pn, pc, rfl, r1, r2, r3, r4⟩ := nm_of_res (h1.far k24.out) (fun b o e => (by cases e)) h5
        have HR : Hid (Fst w1 w5 w1.heap.size d ∧ NmA w1.heap.size w5 w1.heap.size d qa qn qc (V / D) ∧ NmA w1.heap.size w5 w1.heap.size d ra rn rc (V % D) ∧ NmA w1.heap.size w5 w1.heap.size d pa pn pc (10 ^ k) ∧ Diff qa ra ∧ Diff qa pa ∧ Diff ra pa) := by
          have hq := (h2.far k24.out)
          have hr := (h3.far k24.out)
          exact ⟨r1, hq.apart r4 (Diff.symm Diff.none), hr.apart r4 (Diff.symm Diff.none), r2, h5', (r3.new hq.lt).symm, (r3.new hr.lt).symm⟩
        clear h1 h2 h3 h4 h5 h5' h6 h7 r1 r2 r3 r4
        go_wp2_with fail
        go_meet
        exact ⟨_, _, _, rfl, HR.out⟩
    case rest =>
      obtain ⟨pa, pn, pc, rfl, H3⟩ := hcut
      clear H2
      have HM : Hid (Calls Tryz.prog 106 #[.slice ra rn rc, .pointer (some ⟨w1.heap.size, 0, none⟩), .slice ra rn rc, .slice pa pn pc] wc (NmP w1 wc w1.heap.size d ra (V % D * 10 ^ k))) := by
        obtain ⟨h1, h2, h3, h4, h5, h6, h7⟩ := H3.out
        exact nm_mul 10 6 _ h1 h3 h4 h7 (Int.lt_trans hq0.out.2.2.2 HV.out.2.2.2) hte.out.1 (by omega) (by omega) (HL.out wc h1.k).2.2.2.2
      go_wp2_with fail
      refine HM.out.mono ?_
      rintro e w3 ⟨ma, mn, mc, rfl, m1, m2, m3, m4⟩
      have H4 : Hid (Fst w1 w3 w1.heap.size d ∧ NmA w1.heap.size w3 w1.heap.size d qa qn qc (V / D) ∧ NmA w1.heap.size w3 w1.heap.size d ma mn mc (V % D * 10 ^ k) ∧ NmA w1.heap.size w3 w1.heap.size d pa pn pc (10 ^ k) ∧ Diff qa ma ∧ Diff qa pa ∧ Diff ma pa) := by
        obtain ⟨h1, h2, h3, h4, h5, h6, h7⟩ := H3.out
        exact ⟨m1, h2.apart m4 h5, m2, h4.apart m4 h7.symm, (m3.diff h5.symm h2.lt).symm, h6, m3.diff h7 h4.lt⟩
      clear m1 m2 m3 m4 HM H3
      have HDv2 : Hid (Calls Tryz.prog 102 #[.slice ma mn mc, .pointer (some ⟨w1.heap.size, 0, none⟩), .slice none 0 0, .slice ma mn mc, .slice ya yn yc] w3 (DivN w1 w3 w1.heap.size d ma (V % D * 10 ^ k) D)) := by
        obtain ⟨h1, h2, h3, h4, h5, h6, h7⟩ := H4.out
        obtain ⟨_, _, ox, oy, hg⟩ := HL.out w3 h1.k
        have hb : V % D * 10 ^ k < BB ^ 16 := bb_lt (n := 10) (m := 6) hq0.out.2.2.1 (Int.lt_trans hq0.out.2.2.2 HV.out.2.2.2) (Int.le_of_lt hte.out.2) hte.out.1
        exact nm_div h1 h3.z h3.zn (h3.nat hb (by omega)) h3.sep (Or.inl rfl) (by have := h3.len hb; omega) oy HV.out.2.2.1 (by have := hxn2.out.2; omega) (by have := HO.out.2.2.2.2.2.2; omega) hg
      have c3 := (HL.out w3 H4.out.1.k).2.1
      go_wp2_with fail
      refine HDv2.out.mono ?_
      rintro e w4 ⟨d', ta, tn, tc, ua, un, uc, rfl, t1, t2, t3, t4, t5, t6, t7, t8⟩
      have H5 : Hid (Fst w1 w4 w1.heap.size d' ∧ NmA w1.heap.size w4 w1.heap.size d' qa qn qc (V / D) ∧ NmA w1.heap.size w4 w1.heap.size d' ta tn tc (V % D * 10 ^ k / D) ∧ NmA w1.heap.size w4 w1.heap.size d' ua un uc (V % D * 10 ^ k % D) ∧ NmA w1.heap.size w4 w1.heap.size d' pa pn pc (10 ^ k) ∧ Diff qa ta ∧ Diff qa ua ∧ Diff ta ua ∧ Diff qa pa ∧ Diff ta pa ∧ Diff ua pa) := by
        obtain ⟨h1, h2, h3, h4, h5, h6, h7⟩ := H4.out
        exact ⟨t1, h2.div t8 h5 t2, t3, t4, h4.div t8 h7.symm t2, (t6.diff h5.symm h2.lt).symm, (t7.new h2.lt).symm, t5, h6, t6.diff h7 h4.lt, t7.new h4.lt⟩
      clear t1 t2 t3 t4 t5 t6 t7 t8 H4 HDv2 c3
      have hfr := dec_frac (N := V) HV.out.2.2.1 hte.out.2
      have hlow := Lib.hid (dec_low (N := V) HV.out.2.2.1 hte.out.2)
      have hmid := Lib.hid (dec_mid (N := V) HV.out.2.2.1 hte.out.2)
      have hhigh := Lib.hid (dec_high (N := V) HV.out.2.2.1 hte.out.2)
      obtain ⟨R1, hR1⟩ : ∃ x, V % D * 10 ^ k / D = x := ⟨_, rfl⟩
      obtain ⟨R2, hR2⟩ : ∃ x, V % D * 10 ^ k % D = x := ⟨_, rfl⟩
      rw [hR1, hR2] at hfr hlow hmid hhigh H5
      have HRb : Hid (R1 < BB ^ 6 ∧ R1 + 1 < BB ^ 7 ∧ R2 < BB ^ 10 ∧ R2 + R2 < BB ^ 11) := by
        obtain ⟨a1, a2, a3, a4⟩ := hfr
        have b1 := hte.out.1
        have b2 := HV.out.2.2.2
        have b3 : BB ^ 7 = BB ^ 6 * BB := BB_succ 6
        have b4 : BB ^ 11 = BB ^ 10 * BB := BB_succ 10
        have b5 := BBn_pos 6
        have b6 := BBn_pos 10
        refine ⟨by omega, ?_, by omega, ?_⟩
        · rw [b3]; unfold BB at *; omega
        · rw [b4]; unfold BB at *; omega
      have Hfr := Lib.hid hfr
      clear hfr hR1 hR2
      have HA : Hid (Calls Tryz.prog 107 #[.slice ua un uc, .slice ua un uc, .slice ua un uc] w4 (NmP w1 w4 w1.heap.size d' ua (R2 + R2))) := by
        obtain ⟨h1, h2, h3, h4, _⟩ := H5.out
        exact nm_add 10 10 ua un uc h1 h4.z h4.zn h4 h4 (Or.inl rfl) (Or.inl rfl) HRb.out.2.2.1 HRb.out.2.2.1 (by omega) (by omega)
      go_wp2_with fail
      refine HA.out.mono ?_
      rintro e w5 ⟨va, vn, vc, rfl, v1, v2, v3, v4⟩
      have H6 : Hid (Fst w1 w5 w1.heap.size d' ∧ NmA w1.heap.size w5 w1.heap.size d' qa qn qc (V / D) ∧ NmA w1.heap.size w5 w1.heap.size d' ta tn tc R1 ∧ NmA w1.heap.size w5 w1.heap.size d' va vn vc (R2 + R2) ∧ NmA w1.heap.size w5 w1.heap.size d' pa pn pc (10 ^ k) ∧ Diff qa ta ∧ Diff qa pa ∧ Diff ta pa) := by
        obtain ⟨h1, h2, h3, h4, h5, h6, h7, h8, h9, h10, h11⟩ := H5.out
        exact ⟨v1, h2.apart v4 h7, h3.apart v4 h8, v2, h5.apart v4 h11.symm, h6, h9, h10⟩
      clear v1 v2 v3 v4 H5 HA
      have HC : Hid (Calls Tryz.prog 108 #[.slice ya yn yc, .slice va vn vc] w5 (CmpPost w5 D (R2 + R2))) := by
        obtain ⟨h1, h2, h3, h4, _⟩ := H6.out
        exact nm_cmp 11 (HL.out w5 h1.k).2.2.2.1.ex h4 HRb.out.2.2.2 (by omega)
      have c3 := (HL.out w5 H6.out.1.k).2.1
      obtain ⟨z, hz⟩ : ∃ z, cmpV D (R2 + R2) = z := ⟨_, rfl⟩
      obtain ⟨bz, hbz⟩ : ∃ b, decide (D ≤ R2 + R2) = b := ⟨_, rfl⟩
      have dz : decide (z ≤ 0) = bz := by
        rw [← hz, ← hbz]
        rcases cmp_cases D (R2 + R2) with ⟨h1, h2⟩ | ⟨h1, h2⟩ | ⟨h1, h2⟩
        · rw [h2, decide_eq_true (show D ≤ R2 + R2 by omega)]; rfl
        · rw [h2, decide_eq_true (show D ≤ R2 + R2 by omega)]; rfl
        · rw [h2, decide_eq_false (show ¬ D ≤ R2 + R2 by omega)]; rfl
      unfold CmpPost at HC
      rw [hz] at HC
      have Hbz := Lib.hid hbz
      clear hz hbz
      go_wp2_with fail
      refine HC.out.mono ?_
      rintro e w6 ⟨rfl, hw6⟩
      have H7 : Hid (Fst w1 w6 w1.heap.size d' ∧ NmA w1.heap.size w6 w1.heap.size d' qa qn qc (V / D) ∧ NmA w1.heap.size w6 w1.heap.size d' ta tn tc R1 ∧ NmA w1.heap.size w6 w1.heap.size d' pa pn pc (10 ^ k) ∧ Diff qa ta ∧ Diff qa pa ∧ Diff ta pa) := by
        obtain ⟨nd, rfl⟩ := hw6
        obtain ⟨h1, h2, h3, h4, h5, h6, h7, h8⟩ := H6.out
        have kd : Chg zNone w5 (w5.drewN nd) := (Chg.refl _ _).drewN nd
        exact ⟨h1.far kd, h2.far kd, h3.far kd, h5.far kd, h6, h7, h8⟩
      clear hw6 H6 HC c3
      go_upto_if 90 with fail
      go_cut [8, 9] from 91 to 104 (fun s8 s9 wd => ∃ qa qn qc ra rn rc, s8 = .slice qa qn qc ∧ s9 = .slice ra rn rc ∧ Hid (Fst w1 wd w1.heap.size d' ∧ NmA w1.heap.size wd w1.heap.size d' qa qn qc (decQ V D (10 ^ k) / 10 ^ k) ∧ NmA w1.heap.size wd w1.heap.size d' ra rn rc (decQ V D (10 ^ k) % 10 ^ k)))
      case first => as_aux_lemma =>
        cases bz with
        | false =>
          clear dz
          go_wp2_with fail
          go_meet
          obtain ⟨h1, h2, h3, h4, h5, h6, h7⟩ := H7.out
          obtain ⟨e1, e2⟩ := hlow.out (by have := of_decide_eq_false Hbz.out; omega)
          exact ⟨qa, qn, qc, ta, tn, tc, rfl, rfl, h1, by rw [e1]; exact h2, by rw [e2]; exact h3⟩
        | true =>
          clear dz
          go_wp2_with fail
          refine (natOne_any w6).mono ?_
          rintro e w7 ⟨rfl, hw7⟩
          have H8 : Hid (Fst w1 w7 w1.heap.size d' ∧ NmA w1.heap.size w7 w1.heap.size d' qa qn qc (V / D) ∧ NmA w1.heap.size w7 w1.heap.size d' ta tn tc R1 ∧ NmA w1.heap.size w7 w1.heap.size d' pa pn pc (10 ^ k) ∧ NmA w1.heap.size w7 w1.heap.size d' (some ⟨w6.heap.size, 0, none⟩) 1 1 1 ∧ Diff qa ta ∧ Diff qa pa ∧ Diff ta pa ∧ Diff ta (some ⟨w6.heap.size, 0, none⟩)) := by
            obtain ⟨h1, h2, h3, h4, h5, h6, h7⟩ := H7.out
            have kA : Chg zNone w6 w7 := by rw [hw7]; exact (Chg.refl _ _).alloc _
            exact ⟨h1.far kA, h2.far kA, h3.far kA, h4.far kA, by rw [hw7]; exact nm_word 1 153 ⟨by decide, by decide⟩ (by decide) h1, h5, h6, h7, new_diff h3.lt⟩
          clear hw7 H7
          have HA : Hid (Calls Tryz.prog 107 #[.slice ta tn tc, .slice ta tn tc, .slice (some ⟨w6.heap.size, 0, none⟩) 1 1] w7 (NmP w1 w7 w1.heap.size d' ta (R1 + 1))) := by
            obtain ⟨h1, h2, h3, h4, h5, h6, h7, h8, h9⟩ := H8.out
            exact nm_add 6 1 ta tn tc h1 h3.z h3.zn h3 h5 (Or.inl rfl) (Or.inr h9) HRb.out.1 (by decide) (by omega) (by omega)
          go_wp2_with fail
          refine HA.out.mono ?_
          rintro e w8 ⟨sa, sn, sc, rfl, v1, v2, v3, v4⟩
          have H9 : Hid (Fst w1 w8 w1.heap.size d' ∧ NmA w1.heap.size w8 w1.heap.size d' qa qn qc (V / D) ∧ NmA w1.heap.size w8 w1.heap.size d' sa sn sc (R1 + 1) ∧ NmA w1.heap.size w8 w1.heap.size d' pa pn pc (10 ^ k)) := by
            obtain ⟨h1, h2, h3, h4, h5, h6, h7, h8, h9⟩ := H8.out
            exact ⟨v1, h2.apart v4 h6, v2, h4.apart v4 h8.symm⟩
          clear v1 v2 v3 v4 H8 HA
          have HC : Hid (Calls Tryz.prog 108 #[.slice sa sn sc, .slice pa pn pc] w8 (CmpPost w8 (R1 + 1) (10 ^ k))) := by
            obtain ⟨h1, h2, h3, h4⟩ := H9.out
            exact nm_cmp 6 (h3.nat HRb.out.2.1 (by omega)) h4 hte.out.1 (by omega)
          obtain ⟨z2, hz⟩ : ∃ z, cmpV (R1 + 1) (10 ^ k) = z := ⟨_, rfl⟩
          obtain ⟨b2, hb2⟩ : ∃ b, decide ((10 : Int) ^ k ≤ R1 + 1) = b := ⟨_, rfl⟩
          have dz : decide (0 ≤ z2) = b2 := by
            rw [← hz, ← hb2]
            rcases cmp_cases (R1 + 1) (10 ^ k) with ⟨h1, h2⟩ | ⟨h1, h2⟩ | ⟨h1, h2⟩
            · rw [h2, decide_eq_false (show ¬ (10 : Int) ^ k ≤ R1 + 1 by omega)]; rfl
            · rw [h2, decide_eq_true (show (10 : Int) ^ k ≤ R1 + 1 by omega)]; rfl
            · rw [h2, decide_eq_true (show (10 : Int) ^ k ≤ R1 + 1 by omega)]; rfl
          have dz' : decide (z2 ≥ 0) = b2 := dz
          unfold CmpPost at HC
          rw [hz] at HC
          have Hb2 := Lib.hid hb2
          clear hz hb2
          go_wp2_with fail
          refine HC.out.mono ?_
          rintro e w9 ⟨rfl, hw9⟩
          have H10 : Hid (Fst w1 w9 w1.heap.size d' ∧ NmA w1.heap.size w9 w1.heap.size d' qa qn qc (V / D) ∧ NmA w1.heap.size w9 w1.heap.size d' sa sn sc (R1 + 1) ∧ NmA w1.heap.size w9 w1.heap.size d' pa pn pc (10 ^ k)) := by
            obtain ⟨nd, rfl⟩ := hw9
            obtain ⟨h1, h2, h3, h4⟩ := H9.out
            have kd : Chg zNone w8 (w8.drewN nd) := (Chg.refl _ _).drewN nd
            exact ⟨h1.far kd, h2.far kd, h3.far kd, h4.far kd⟩
          clear hw9 H9 HC
          cases b2 with
          | false =>
            go_wp2_with fail
            go_meet
            obtain ⟨h1, h2, h3, h4⟩ := H10.out
            obtain ⟨e1, e2⟩ := hmid.out (by have := of_decide_eq_true Hbz.out; omega) (by have := of_decide_eq_false Hb2.out; omega)
            exact ⟨qa, qn, qc, sa, sn, sc, rfl, rfl, h1, by rw [e1]; exact h2, by rw [e2]; exact h3⟩
          | true =>
            go_wp2_with fail
            refine (natOne_any w9).mono ?_
            rintro e w10 ⟨rfl, hw10⟩
            have H11 : Hid (Fst w1 w10 w1.heap.size d' ∧ NmA w1.heap.size w10 w1.heap.size d' qa qn qc (V / D) ∧ NmA w1.heap.size w10 w1.heap.size d' sa sn sc (R1 + 1) ∧ NmA w1.heap.size w10 w1.heap.size d' pa pn pc (10 ^ k) ∧ NmA w1.heap.size w10 w1.heap.size d' (some ⟨w9.heap.size, 0, none⟩) 1 1 1) := by
              obtain ⟨h1, h2, h3, h4⟩ := H10.out
              have kA : Chg zNone w9 w10 := by rw [hw10]; exact (Chg.refl _ _).alloc _
              exact ⟨h1.far kA, h2.far kA, h3.far kA, h4.far kA, by rw [hw10]; exact nm_word 1 153 ⟨by decide, by decide⟩ (by decide) h1⟩
            clear hw10 H10
            have HA : Hid (Calls Tryz.prog 107 #[.slice none 0 0, .slice qa qn qc, .slice (some ⟨w9.heap.size, 0, none⟩) 1 1] w10 (NmP w1 w10 w1.heap.size d' none (V / D + 1))) := by
              obtain ⟨h1, h2, h3, h4, h5⟩ := H11.out
              exact nm_add 10 1 none 0 0 h1 (Or.inl ⟨rfl, rfl⟩) (fun b o e => (by cases e)) h2 h5 (Or.inr Diff.none) (Or.inr Diff.none) hq0.out.2.1 (by decide) (by omega) (by omega)
            go_wp2_with fail
            refine HA.out.mono ?_
            rintro e w11 ⟨ga, gn, gc, rfl, v1, v2, v3, v4⟩
            have H12 : Hid (Fst w1 w11 w1.heap.size d' ∧ NmA w1.heap.size w11 w1.heap.size d' ga gn gc (V / D + 1) ∧ NmA w1.heap.size w11 w1.heap.size d' sa sn sc (R1 + 1) ∧ NmA w1.heap.size w11 w1.heap.size d' pa pn pc (10 ^ k)) := by
              obtain ⟨h1, h2, h3, h4, h5⟩ := H11.out
              exact ⟨v1, v2, h3.apart v4 Diff.none.symm, h4.apart v4 Diff.none.symm⟩
            clear v1 v2 v3 v4 H11 HA
            have HB : Hid (Calls Tryz.prog 109 #[.slice none 0 0, .slice sa sn sc, .slice pa pn pc] w11 (NmP w1 w11 w1.heap.size d' none (R1 + 1 - 10 ^ k))) := by
              obtain ⟨h1, h2, h3, h4⟩ := H12.out
              exact nm_sub 7 6 h1 h3 h4 HRb.out.2.1 hte.out.1 (by omega) (by omega) (of_decide_eq_true Hb2.out)
            go_wp2_with fail
            refine HB.out.mono ?_
            rintro e w12 ⟨ha, hn, hc, rfl, v1, v2, v3, v4⟩
            have H13 := Lib.hid (And.intro v1 (And.intro v2 v4))
            clear v1 v2 v3 v4 HB
            go_wp2_with fail
            go_meet
            obtain ⟨h1, h2, h3, h4⟩ := H12.out
            obtain ⟨v1, v2, v4⟩ := H13.out
            obtain ⟨e1, e2, e3⟩ := hhigh.out (by have := of_decide_eq_true Hbz.out; omega) (by have := of_decide_eq_true Hb2.out; omega)
            exact ⟨ga, gn, gc, ha, hn, hc, rfl, rfl, v1, by rw [e1]; exact h2.apart v4 Diff.none.symm, by rw [e2, ← e3]; exact v2⟩
      case rest =>
        clear H7 hlow hmid hhigh
        obtain ⟨qa, qn, qc, ra, rn, rc, rfl, rfl, H8⟩ := hcut
        have hA0 : Hid (decQ V D (10 ^ k) / 10 ^ k < BB ^ 11 ∧ decQ V D (10 ^ k) % 10 ^ k < 10 ^ k) := by
          refine ⟨?_, Int.emod_lt_of_pos _ hte.out.2⟩
          have b1 : BB ^ 11 = BB ^ 10 * BB := BB_succ 10
          have b2 := hq0.out.2.1
          have b3 := BBn_pos 10
          have b4 : (10 : Int) ^ k * (V / D + 1) = 10 ^ k * (V / D) + 10 ^ k := by rw [Int.mul_add]; omega
          have e1 := (dec_split (N := V) (p := 10 ^ k) HV.out.2.2.1).1
          have e2 := dec_frac (N := V) HV.out.2.2.1 hte.out.2
          have : decQ V D (10 ^ k) ≤ 10 ^ k * (V / D + 1) := by
            rw [b4, Int.mul_comm (10 ^ k)]
            unfold decQ
            split <;> omega
          have h3 : decQ V D (10 ^ k) / 10 ^ k ≤ V / D + 1 := by
            have := Int.ediv_le_ediv hte.out.2 this
            rwa [Int.mul_ediv_cancel_left _ (by have := hte.out.2; omega)] at this
          rw [b1]; unfold BB at *; omega
        have c0 := (HL.out wc H8.out.1.k).1
        go_upto_if 109 with fail
        go_cut [5] from 110 to 112 (fun s5 we => ∃ a n c B, s5 = .slice a n c ∧ n ≤ 1 ∧ Hid (n = (if sg = true then 1 else 0) ∧ (sg = true → B 0 = 45) ∧ Buf w1.heap.size we a n c B ∧ (∀ b o, a = some ⟨b, o, none⟩ → SepB w1.heap.size d' b) ∧ Fst w1 we w1.heap.size d' ∧ NmA w1.heap.size we w1.heap.size d' qa qn qc (decQ V D (10 ^ k) / 10 ^ k) ∧ NmA w1.heap.size we w1.heap.size d' ra rn rc (decQ V D (10 ^ k) % 10 ^ k) ∧ Diff ra a))
        case first => as_aux_lemma =>
          cases sg with
          | false =>
            go_wp2_with fail
            go_meet
            obtain ⟨h1, h2, h3⟩ := H8.out
            exact ⟨none, 0, 0, fun _ => 0, rfl, by omega, rfl, fun h => (by cases h), Buf.nil _ _, fun b o e => (by cases e), h1, h2, h3, Diff.none.symm⟩
          | true =>
            have hnb := Buf.nil w1.heap.size wc
            have HX := Lib.hid (hnb.one 45)
            have h00 : (0 : Nat) ≤ 0 := Nat.le_refl _
            have h01 : (0 : Nat) < 1099511627776 := by omega
            go_wp2_with (refine wpList_append_byte rfl (.tmp 110) (.tmp 111) rfl none 0 0 (fun _ => 0) _ _ rfl rfl HX.out.1 HX.out.2.1 h00 h01 HX.out.2.2 ?_; rintro a4 c4 w4 h4; have H4 := Lib.hid h4; clear h4)
            go_meet
            obtain ⟨h1, h2, h3⟩ := H8.out
            obtain ⟨q1, q2, q3⟩ := hnb.snoc h1.size H4.out
            refine ⟨a4, 1, c4, _, rfl, by omega, rfl, fun _ => upd_same _ _ _, q1, q3.sep (fun b o e => (by cases e)) h1.st, h1.same q2 ?_, h2.apart q2 Diff.none.symm, h3.apart q2 Diff.none.symm, (q3.new h3.lt).symm⟩
            rintro b o ⟨o', e⟩
            cases e
        case rest =>
          obtain ⟨ba, bn, bc, B, rfl, hbn, H9⟩ := hcut
          clear H8 c0
          obtain ⟨Q, hQ⟩ : ∃ x, decQ V D (10 ^ k) / 10 ^ k = x := ⟨_, rfl⟩
          obtain ⟨R, hR⟩ : ∃ x, decQ V D (10 ^ k) % 10 ^ k = x := ⟨_, rfl⟩
          rw [hQ, hR] at H9 hA0
          have HQR := Lib.hid (And.intro hQ hR)
          clear hQ hR
          have HU : Hid (Calls Tryz.prog 110 #[.slice qa qn qc, .int .i64 10] wc (UtoaP wc Q)) := by
            obtain ⟨h1, h2, h3, h4, h5, h6, h7, _⟩ := H9.out
            exact utoa_any qa qn qc Q wc (h6.nat hA0.out.1 (by omega)) (by have := h6.len hA0.out.1; omega) (HL.out wc h5.k).2.2.2.2
          go_wp2_with fail
          refine HU.out.mono ?_
          rintro e w2 ⟨ua, un, uc, UB, rfl, u1, u2, u3⟩
          have hun0 := u2.long
          obtain ⟨ub, uo, rfl, hUW⟩ : ∃ b o, ua = some ⟨b, o, none⟩ ∧ BWords w2 b o un UB := by
            rcases u1.2.2.1 with h | h
            · omega
            · exact h
          have hun1 : un < 1099511627776 := by have := u1.1; have := u1.2.1; omega
          have hun2 : un < 1048576 := by have := u1.1; have := u1.2.1; omega
          have H10 : Hid (TextW UB un false Q ∧ Buf w1.heap.size w2 ba bn bc B ∧ (∀ b o, ba = some ⟨b, o, none⟩ → SepB w1.heap.size d' b) ∧ Fst w1 w2 w1.heap.size d' ∧ NmA w1.heap.size w2 w1.heap.size d' ra rn rc R ∧ bn = (if sg = true then 1 else 0) ∧ (sg = true → B 0 = 45) ∧ Diff ra ba) := by
            obtain ⟨h1, h2, h3, h4, h5, h6, h7, h8⟩ := H9.out
            exact ⟨u2, h3.far u3, h4, h5.far u3, h7.far u3, h1, h2, h8⟩
          have hbz := Lib.hid H10.out.2.1.z
          have hbr := Lib.hid H10.out.2.1.rd
          have hbc := H10.out.2.1.le
          have hbn1 : bn < 1099511627776 := by omega
          have hUW' := Lib.hid hUW
          clear u1 u2 u3 H9 HU hUW
          go_upto_if 118 with (refine wpList_append_bytes rfl (.tmp 113) (.tmp 115) rfl ba bn bc B ub uo un uc UB rfl rfl hbz.out hbr.out hbc hbn1 hUW'.out hun0 hun1 ?_; rintro a3 c3 w3 h3; have H3 := Lib.hid h3; clear h3)
          have H11 : Hid (Buf w1.heap.size w3 a3 (bn + un) c3 (cat B bn UB) ∧ TextW (cat B bn UB) (bn + un) sg Q ∧ (∀ b o, a3 = some ⟨b, o, none⟩ → SepB w1.heap.size d' b) ∧ Fst w1 w3 w1.heap.size d' ∧ NmA w1.heap.size w3 w1.heap.size d' ra rn rc R ∧ Diff ra a3) := by
            obtain ⟨h1, h2, h3, h4, h5, h6, h7, h8⟩ := H10.out
            obtain ⟨q1, q2, q3⟩ := h2.app h4.size H3.out
            exact ⟨q1, h1.signed h6 h7, q3.sep h3 h4.st, h4.same q2 (fun b o ⟨o', e⟩ => ⟨h2.new b o' e, h3 b o' e⟩), h5.apart q2 h8, (q3.diff h8.symm h5.lt).symm⟩
          obtain ⟨l, hl⟩ : ∃ l, bn + un = l := ⟨_, rfl⟩
          have hl2 : l < 1048577 := by omega
          obtain ⟨B2, hB2⟩ : ∃ B2, cat B bn UB = B2 := ⟨_, rfl⟩
          rw [hl, hB2] at H11
          rw [hl]
          clear hl hB2
          clear hbz hbr hbc hbn1 hUW' H10 H3
          go_cut [5, 12, 13] from 119 to 137 (fun s5 s12 s13 we => ∃ a n c B, s5 = .slice a n c ∧ Hid (Buf w1.heap.size we a n c B ∧ PointW B n sg (decQ V D (10 ^ k)) k ∧ Fst w1 we w1.heap.size d'))
          case first => as_aux_lemma =>
            cases bk with
            | false =>
              go_wp2_with fail
              go_meet
              have h0 := of_decide_eq_false Hbk.out
              obtain ⟨h1, h2, h3, h4, h5, h6⟩ := H11.out
              exact ⟨a3, l, c3, _, rfl, h1, ⟨l, by rw [HQR.out.1]; exact h2, Or.inl ⟨by omega, rfl⟩⟩, h4⟩
            | true =>
              have hk0 : 0 < k := by have := of_decide_eq_true Hbk.out; omega
              have HX := Lib.hid (H11.out.1.one 46)
              have hle := H11.out.1.le
              have hlt : l < 1099511627776 := by omega
              go_wp2_with (refine wpList_append_byte rfl (.tmp 119) (.tmp 120) rfl a3 l c3 B2 _ _ rfl rfl HX.out.1 HX.out.2.1 hle hlt HX.out.2.2 ?_; rintro a4 c4 w4 h4; have H4 := Lib.hid h4; clear h4)
              have H12 : Hid (Buf w1.heap.size w4 a4 (l + 1) c4 (upd B2 l 46) ∧ (∀ b o, a4 = some ⟨b, o, none⟩ → SepB w1.heap.size d' b) ∧ Fst w1 w4 w1.heap.size d' ∧ NmA w1.heap.size w4 w1.heap.size d' ra rn rc R) := by
                obtain ⟨h1, h2, h3, h4, h5, h6⟩ := H11.out
                obtain ⟨q1, q2, q3⟩ := h1.snoc h4.size H4.out
                exact ⟨q1, q3.sep h3 h4.st, h4.same q2 (fun b o ⟨o', e⟩ => ⟨h1.new b o' e, h3 b o' e⟩), h5.apart q2 h6⟩
              have HU : Hid (Calls Tryz.prog 110 #[.slice ra rn rc, .int .i64 10] w4 (UtoaP w4 R)) := by
                obtain ⟨h1, h2, h3, h4⟩ := H12.out
                have hR : R < BB ^ 6 := Int.lt_trans hA0.out.2 hte.out.1
                exact utoa_any ra rn rc R w4 (h4.nat hR (by omega)) (by have := h4.len hR; omega) (HL.out w4 h3.k).2.2.2.2
              refine HU.out.mono ?_
              rintro e w5 ⟨va, vn, vc, VB, rfl, u1, u2, u3⟩
              have hvn0 := u2.long
              obtain ⟨vb, vo, rfl, hVW⟩ : ∃ b o, va = some ⟨b, o, none⟩ ∧ BWords w5 b o vn VB := by
                rcases u1.2.2.1 with h | h
                · omega
                · exact h
              have hvk := text_len u2 hk0 hA0.out.2
              have H13 : Hid (Buf w1.heap.size w5 a4 (l + 1) c4 (upd B2 l 46) ∧ (∀ b o, a4 = some ⟨b, o, none⟩ → SepB w1.heap.size d' b) ∧ Fst w1 w5 w1.heap.size d' ∧ TextW VB vn false R ∧ BWords w5 vb vo vn VB ∧ Diff a4 (some ⟨vb, vo, none⟩)) := by
                obtain ⟨h1, h2, h3, h4⟩ := H12.out
                refine ⟨h1.far u3, h2, h3.far u3, u2, hVW, ?_⟩
                intro b o b' o' e e'
                have g1 := h1.lt b o e
                have g2 := u1.2.2.2 vb vo rfl
                injection e' with e'; injection e' with e1 _; omega
              clear u1 u2 u3 hVW H12 HU H4 HX hle hlt
              go_wp2_with fail
              go_loopg [5, 13] (k - vn) (fun g s5 s13 wd => ∃ a i c BX, i + g = k - vn ∧ s5 = .slice a (l + 1 + i) c ∧ s13 = .int .i64 ((g : Nat) : Int) ∧ Hid (Buf w1.heap.size wd a (l + 1 + i) c BX ∧ TextW BX l sg Q ∧ BX l = 46 ∧ (∀ j, l + 1 ≤ j → j < l + 1 + i → BX j = 48) ∧ (∀ b o, a = some ⟨b, o, none⟩ → SepB w1.heap.size d' b) ∧ Fst w1 wd w1.heap.size d' ∧ BWords wd vb vo vn VB ∧ Diff a (some ⟨vb, vo, none⟩) ∧ vb < wd.heap.size))
              case atStart =>
                obtain ⟨h1, h2, h3, h4, h5, h6⟩ := H13.out
                exact ⟨a4, 0, c4, _, by omega, rfl, by go_num, h1, H11.out.2.1.congr (fun i hi => upd_other _ _ (by omega)), upd_same _ _ _, fun j h1 h2 => by omega, h2, h3, h5, h6, lt_of_cell (h5 0 hvn0)⟩
              case round =>
                obtain ⟨a, i, c, BX, hig, rfl, rfl, HLp⟩ := hrel
                have hle := HLp.out.1.le
                have hlt : l + 1 + i < 1099511627776 := by omega
                by_cases hg0 : gk = 0
                · have q1 : decide ((0 : Int) < (gk : Int)) = false := decide_eq_false (by omega)
                  have q1' : decide (0 < gk) = false := decide_eq_false (by omega)
                  have Hi : Hid (i + vn = k) := by show _ = _; omega
                  have hvn1 : vn < 1099511627776 := by omega
                  have Hz := Lib.hid (And.intro HLp.out.1.z (And.intro HLp.out.1.rd HLp.out.2.2.2.2.2.2.1))
                  clear hg0
                  go_wp2_with (refine wpList_append_bytes rfl (.tmp 135) (.tmp 136) rfl a (l + 1 + i) c BX vb vo vn vc VB rfl rfl Hz.out.1 Hz.out.2.1 hle hlt Hz.out.2.2 hvn0 hvn1 ?_; rintro a6 c6 w6 h6; have H6 := Lib.hid h6; clear h6)
                  go_meet
                  obtain ⟨h1, h2, h3, h4, h5, h6, h7, h8, h9⟩ := HLp.out
                  obtain ⟨q1, q2, q3⟩ := h1.app h6.size H6.out
                  exact ⟨a6, l + 1 + i + vn, c6, _, rfl, q1, pad_text h2 h3 h4 H13.out.2.2.2.1 Hi.out hk0 HQR.out.1 HQR.out.2, h6.same q2 (fun b o ⟨o', e⟩ => ⟨h1.new b o' e, h5 b o' e⟩)⟩
                · have q1 : decide ((0 : Int) < (gk : Int)) = true := decide_eq_true (by omega)
                  have q1' : decide (0 < gk) = true := decide_eq_true (by omega)
                  have HX := Lib.hid (HLp.out.1.one 48)
                  go_wp2_with (refine wpList_append_byte rfl (.tmp 132) (.tmp 133) rfl a (l + 1 + i) c BX _ _ rfl rfl HX.out.1 HX.out.2.1 hle hlt HX.out.2.2 ?_; rintro a6 c6 w6 h6; have H6 := Lib.hid h6; clear h6)
                  go_roundg (gk - 1)
                  case measure => omega
                  case rel =>
                    obtain ⟨h1, h2, h3, h4, h5, h6, h7, h8, h9⟩ := HLp.out
                    obtain ⟨q1, q2, q3⟩ := h1.snoc h6.size H6.out
                    refine ⟨a6, i + 1, c6, upd BX (l + 1 + i) 48, by omega, rfl, by go_num, q1, h2.congr (fun j hj => upd_other _ _ (by omega)), by rw [upd_other _ _ (by omega)]; exact h3, fun j h1 h2 => ?_, q3.sep h5 h6.st, h6.same q2 (fun b o ⟨o', e⟩ => ⟨h1.new b o' e, h5 b o' e⟩), fun j hj => q2.cell (h7 j hj) ?_, q3.diff h8 (fun b o e => by injection e with e; injection e with e1 _; omega), Nat.lt_of_lt_of_le h9 q2.size⟩
                    · by_cases hj : j = l + 1 + i
                      · subst hj; exact upd_same _ _ _
                      · rw [upd_other _ _ hj]; exact h4 j h1 (by omega)
                    · rintro ⟨o', e⟩
                      exact h8 vb o' vb vo e rfl rfl
          case rest =>
            obtain ⟨a, n, c, B', rfl, H12⟩ := hcut
            clear H11
            obtain ⟨b1, o1, rfl, hW⟩ : ∃ b o, a = some ⟨b, o, none⟩ ∧ BWords wc b o n B' := by
              rcases H12.out.1.rd with h | h
              · have := H12.out.2.1.pos; omega
              · exact h
            have hcv := conv_str wc b1 o1 n c B' hW H12.out.2.1.byte
            clear hW
            go_wp2_with fail
            refine leaves_cons (f := 101) (args := #[.pointer (some ⟨w1.heap.size, 0, none⟩)]) (by simp) (by simp [go_sem]) ?_
            refine (free_d w1.heap.size d' .returning wc H12.out.2.2.st).mono ?_
            rintro e u' w'' ⟨rfl, rfl, hrest⟩
            refine ⟨_, results_tmp rfl _ _ _, strOf B' n, rfl, H12.out.2.1.str, ?_⟩
            have hs := K1.out.size
            exact K1.out.trans (rest_end H12.out.2.2 hrest) (fun b o hb hz => by have : w1.heap.size ≤ b := hz; omega)
end Go.Proofs.YtmgfajamanakcaaGreatDoor
