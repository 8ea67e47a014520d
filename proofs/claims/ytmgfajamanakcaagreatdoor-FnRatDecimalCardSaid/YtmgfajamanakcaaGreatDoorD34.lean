/- Part of the proof of FnParse: what the functions that it reaches do, as contracts. Conditions: those that each theorem names. -/
import Derived.Test.YtmgfajamanakcaaGreatDoorD33
import Derived.Deep.RegionHeld3
import Derived.Test.YtmgfajamanakcaaGreatDoorD02
namespace Go.Proofs.YtmgfajamanakcaaGreatDoor
set_option linter.unusedVariables false
set_option linter.unusedSimpArgs false
open Go Go.RowKit
set_option maxRecDepth 100000
def cat (X : Nat → Int) (n : Nat) (Y : Nat → Int) : Nat → Int := fun i => if i < n then X i else Y (i - n)
theorem cat_zero (X Y : Nat → Int) : cat X 0 Y = Y := by funext i; simp [cat]
def BAppAll (W : World) (a : Option Addr) (n c : Nat) (X : Nat → Int) (m : Nat) (Y : Nat → Int) (a' : Option Addr) (c' : Nat) (W' : World) : Prop :=
  n + m ≤ c' ∧ BZOK W' a' c' ∧ BRd W' a' (n + m) (cat X n Y) ∧ Home W a c a' c' ∧ Chg (zAddr a c) W W'
theorem run_append_bytes (a : Option Addr) (n c : Nat) (X : Nat → Int) (W : World) (hz : BZOK W a c) (hr : BRd W a n X) (hnc : n ≤ c) (hn : n < 1099511627776) (b2 o2 m c2 : Nat) (Y : Nat → Int) (hY : BWords W b2 o2 m Y) (hm : 0 < m) (hm2 : m < 1099511627776) (ty : TypeId) :
    ∃ a' c' W', (Builtin.append_ #[100, 100] ty #[.slice a n c, .slice (some ⟨b2, o2, none⟩) m c2]).run Tryz.prog W = .ok (.slice a' (n + m) c') W' ∧ BAppAll W a n c X m Y a' c' W' := by
  obtain ⟨i0, hi, hz0, hz1, hz2⟩ := info_parts info5
  have holds : ∀ (b o n : Nat) (X : Nat → Int), BWords W b o n X → ∀ j v, (byteVals X n)[j]? = some v → W.cell? ((⟨b, o, none⟩ : Addr).add j) = some v := fun b o n X hX j v h => by
    obtain ⟨hj, rfl⟩ := byteVals_get X n j v h
    have := hX j hj
    by_cases h0 : j = 0
    · subst h0; simpa [Addr.add] using this
    · simpa [Addr.add, h0] using this
  have hnews := holds b2 o2 m Y hY
  have hl : (byteVals Y m).length = m * i0.size := by rw [byteVals_length, hz1, Nat.mul_one]
  rcases hz with ⟨rfl, rfl⟩ | ⟨b, o, rfl, hb, hroom, hcap⟩
  · obtain rfl : n = 0 := by omega
    have hrun := run_append_nil (P := Tryz.prog) W 100 ty 5 i0 (.int .u8 0) Tryz.underlying100 hi hz0 ⟨b2, o2, none⟩ m c2 (byteVals Y m) hl hnews hm (by omega) (by rw [hz2]; omega)
    have hg := grownCap_ge W m 0 5 (by omega)
    have hw := new_bytes W.drew Y m (grownCap W m 0 5 - m)
    rw [show ((Value.int .u8 0).cells) = #[Value.int .u8 0] from rfl, zeroCells_byte] at hrun
    refine ⟨_, _, _, (by rw [Nat.zero_add]; exact hrun), by omega, Or.inr ⟨_, _, rfl, PB.new W.drew _ _, ?_, hg.2⟩, Or.inr ⟨_, _, rfl, ?_⟩, Or.inr ⟨_, _, rfl, Nat.le_refl _⟩, chg_drew_alloc _ _ _⟩
    · have := hw.2
      rwa [show m + (grownCap W m 0 5 - m) = grownCap W m 0 5 by omega] at this
    · rw [cat_zero, Nat.zero_add]; exact hw.1
  · have hX' : BWords W b o n X := by
      rcases hr with h | ⟨b', o', e, hw⟩
      · intro i hi; omega
      · injection e with e; injection e with e1 e2; subst e1; subst e2; exact hw
    by_cases hfit : n + m ≤ c
    · have hrun := run_append_room_cells (P := Tryz.prog) W 100 ty 5 i0 Tryz.underlying100 hi b o n c ⟨b2, o2, none⟩ m c2 (byteVals Y m) hl hnews (fun u hu => by
          simp only [byteVals, List.mem_map] at hu
          obtain ⟨i, _, rfl⟩ := hu
          rfl) hfit
        (fun j hj => by
          rw [byteVals_length] at hj
          rw [hz1, Nat.mul_one]
          obtain ⟨⟨y, hy⟩, _⟩ := hroom (n + j) (by omega)
          rw [show o + n + j = o + (n + j) by omega, hy]; rfl)
        (fun j hj => by
          rw [byteVals_length] at hj
          rw [hz1, Nat.mul_one, show o + n + j = o + (n + j) by omega]
          exact (hroom (n + j) (by omega)).2)
      rw [hz1, Nat.mul_one] at hrun
      have hk := chg_setCells b (byteVals Y m) (o + n) W
      rw [byteVals_length] at hk
      have hW := bytes_setCells b (o + n) m Y W (fun j hj => by
        obtain ⟨⟨y, hy⟩, _⟩ := hroom (n + j) (by omega)
        rw [show o + n + j = o + (n + j) by omega, hy]; rfl)
      refine ⟨_, _, _, hrun, hfit, Or.inr ⟨b, o, rfl, hb.chg hk, broom_setCells _ _ _ _ _ _ _ _ hroom, hcap⟩, Or.inr ⟨b, o, rfl, ?_⟩, Or.inl ⟨rfl, rfl⟩, hk.mono (fun bb oo _ hh => ⟨o, by rw [hh.1], by have := hh.2.1; omega, by have := hh.2.2; omega⟩)⟩
      exact (hX'.chg hk (fun i hi hh => by have := hh.2.1; omega)).join hW
    · have hrun := run_append_grow (P := Tryz.prog) W 100 ty 5 i0 (.int .u8 0) Tryz.underlying100 hi hz0 ⟨b, o, none⟩ n c (byteVals X n) (by rw [byteVals_length, hz1, Nat.mul_one]) (holds b o n X hX') ⟨b2, o2, none⟩ m c2 (byteVals Y m) hl hnews (by omega) (by omega)
        (by rw [hz2]; exact growslice_fits (by omega) (by omega))
      have hg := grownCap_ge W (n + m) c 5 (by omega)
      have hcat : (byteVals X n).toArray ++ (byteVals Y m).toArray = (byteVals (cat X n Y) (n + m)).toArray := by
        unfold byteVals
        rw [List.range_add, List.map_append, List.map_map, ← List.append_toArray]
        congr 2
        · apply List.map_congr_left
          intro i hi'
          simp [cat, List.mem_range.1 hi']
        · apply List.map_congr_left
          intro i hi'
          simp [cat]
          intro h; omega
      rw [show ((Value.int .u8 0).cells) = #[Value.int .u8 0] from rfl, zeroCells_byte, hcat] at hrun
      have hw := new_bytes W.drew (cat X n Y) (n + m) (grownCap W (n + m) c 5 - (n + m))
      refine ⟨_, _, _, hrun, by omega, Or.inr ⟨_, _, rfl, PB.new W.drew _ _, ?_, hg.2⟩, Or.inr ⟨_, _, rfl, hw.1⟩, Or.inr ⟨_, _, rfl, Nat.le_refl _⟩, chg_drew_alloc _ _ _⟩
      have := hw.2
      rwa [show n + m + (grownCap W (n + m) c 5 - (n + m)) = grownCap W (n + m) c 5 by omega] at this
theorem wpList_append_bytes {ops : Array Oper} {rest : List Oper} {o : Oper} {act : Act} {w : World} {Q : Exit → Act → World → Prop} (hgd : o.guard = none) (s x : Operand)
    (ho : o.op = .call { callee := .builtin .append, args := #[s, x], argTypes := #[100, 100] })
    (a : Option Addr) (n c : Nat) (X : Nat → Int) (b2 o2 m c2 : Nat) (Y : Nat → Int) (hs : act.eval s = .slice a n c) (hx : act.eval x = .slice (some ⟨b2, o2, none⟩) m c2)
    (hz : BZOK w a c) (hr : BRd w a n X) (hnc : n ≤ c) (hn : n < 1099511627776) (hY : BWords w b2 o2 m Y) (hm : 0 < m) (hm2 : m < 1099511627776)
    (h : ∀ a' c' w', BAppAll w a n c X m Y a' c' w' → wpList Tryz.prog ops Q rest (act.put o.dst (.slice a' (n + m) c')) w') : wpList Tryz.prog ops Q (o :: rest) act w :=
  wpList_plain hgd fun K hK => by
    obtain ⟨a', c', w', hrun, h2⟩ := run_append_bytes a n c X w hz hr hnc hn b2 o2 m c2 Y hY hm hm2 o.type
    unfold Oper.wp execOp
    simp only [ho, resolve, invoke, builtin, Sem.run_bind, Sem.run_pure, Result.andThen_ok, List.map_toArray, List.map_cons, List.map_nil, hs, hx, hrun]
    exact hK _ _ (h a' c' w' h2)
theorem op_append_bytes {o : Oper} {act : Act} {w : World} {K : Act → World → Prop} {Q : Exit → Act → World → Prop} (s x : Operand)
    (ho : o.op = .call { callee := .builtin .append, args := #[s, x], argTypes := #[100, 100] })
    (a : Option Addr) (n c : Nat) (X : Nat → Int) (b2 o2 m c2 : Nat) (Y : Nat → Int) (hs : act.eval s = .slice a n c) (hx : act.eval x = .slice (some ⟨b2, o2, none⟩) m c2)
    (hz : BZOK w a c) (hr : BRd w a n X) (hnc : n ≤ c) (hn : n < 1099511627776) (hY : BWords w b2 o2 m Y) (hm : 0 < m) (hm2 : m < 1099511627776)
    (h : ∀ a' c' w', BAppAll w a n c X m Y a' c' w' → K (act.put o.dst (.slice a' (n + m) c')) w') : Oper.wp Tryz.prog o act w K Q := by
  obtain ⟨a', c', w', hrun, h2⟩ := run_append_bytes a n c X w hz hr hnc hn b2 o2 m c2 Y hY hm hm2 o.type
  unfold Oper.wp execOp
  simp only [ho, resolve, invoke, builtin, Sem.run_bind, Sem.run_pure, Result.andThen_ok, List.map_toArray, List.map_cons, List.map_nil, hs, hx, hrun]
  exact h a' c' w' h2
structure Glob (w : World) : Prop where
  c9 : w.cell? ⟨9, 0, none⟩ = some (.int .i64 8)
  c4 : w.cell? ⟨4, 0, none⟩ = some (.int .i64 40)
  c1 : w.cell? ⟨1, 0, none⟩ = some (.int .i64 40)
  c5 : w.cell? ⟨5, 0, none⟩ = some (.int .i64 12)
  c6 : w.cell? ⟨6, 0, none⟩ = some (.int .i64 80)
theorem Glob.far {w w' : World} (h : Glob w) (k : Chg zNone w w') : Glob w' := ⟨k.cell h.c9 (fun h => h), k.cell h.c4 (fun h => h), k.cell h.c1 (fun h => h), k.cell h.c5 (fun h => h), k.cell h.c6 (fun h => h)⟩
theorem itoa_all (neg : Bool) (xa : Option Addr) (xn xc : Nat) (X : Nat → Int) (V : Int) (w : World) (hx : NatIn w xa xn xc X) (hnx : Norm X xn) (hv : val X xn = V) (hn22 : xn < 22) (hg : Glob w) :
    Calls Tryz.prog 153 #[.slice xa xn xc, .bool neg, .int .i64 10] w (ItoaP w neg V) := by
  by_cases h0 : xn = 0
  · subst h0
    have : V = 0 := by rw [← hv]; rfl
    rw [this]
    exact itoa_zero neg xa xc w
  · exact itoa_any neg xa xn xc X V w hx hnx hv (by omega) hn22 hg.c9 hg.c4 hg.c1 hg.c5 hg.c6
def AppP (w : World) (neg : Bool) (V : Int) (ba : Option Addr) (bn bc : Nat) (Bs : Nat → Int) (e : Ending) (w' : World) : Prop :=
  ∃ a' m c' Y, e = .returned (.slice a' (bn + m) c') ∧ m < 1048576 ∧ bn + m ≤ c' ∧ BZOK w' a' c' ∧ BRd w' a' (bn + m) (cat Bs bn Y) ∧ TextW Y m (neg && decide (V ≠ 0)) V ∧ Home w ba bc a' c' ∧ Chg (zAddr ba bc) w w'
set_option maxHeartbeats 8000000 in
theorem Append_any (zb zo : Nat) (neg : Bool) (xa : Option Addr) (xn xc : Nat) (X : Nat → Int) (V : Int) (ba : Option Addr) (bn bc : Nat) (Bs : Nat → Int) (w : World) (hz : IntC w zb zo neg xa xn xc) (hx : NatIn w xa xn xc X) (hnx : Norm X xn) (hv : val X xn = V) (hn22 : xn < 22) (hg : Glob w)
    (hb : BZOK w ba bc) (hr : BRd w ba bn Bs) (hbc : bn ≤ bc) (hbn : bn < 1099511627776) :
    Calls Tryz.prog 99 #[.pointer (some ⟨zb, zo, none⟩), .slice ba bn bc, .int .i64 10] w (AppP w neg V ba bn bc Bs) := by
  have HI : Hid (∀ W, Chg zNone w W → Calls Tryz.prog 153 #[.slice xa xn xc, .bool neg, .int .i64 10] W (ItoaP W neg V)) := fun W k =>
    itoa_all neg xa xn xc X V W ⟨rd_far hx.rd k (fun _ _ _ _ _ h => h), hx.wf, hx.le, hx.small, hx.aok.chg k⟩ hnx hv hn22 (hg.far k)
  have HL : Hid (∀ sa sn sc Y w1, (BNew w.drew w1 sa sn sc Y ∧ TextW Y sn (neg && decide (V ≠ 0)) V ∧ Chg zNone w.drew w1) → ∃ sb so, sa = some ⟨sb, so, none⟩ ∧ BWords w1 sb so sn Y ∧ (0 < sn ∧ sn < 1099511627776) ∧ BZOK w1 ba bc ∧ BRd w1 ba bn Bs) := fun sa sn sc Y w1 h => by
    obtain ⟨⟨h1, h2, h3, h4⟩, ⟨m, _, _, hm, _⟩, k⟩ := h
    have k' : Chg zNone w w1 := (Chg.refl zNone w).drew.trans k (fun _ _ _ h => h)
    rcases h3 with h0 | ⟨sb, so, e, hw⟩
    · omega
    · refine ⟨sb, so, e, hw, ⟨by omega, by omega⟩, hb.chg k' (fun _ _ _ h => h), ?_⟩
      rcases hr with h0 | ⟨b, o, e, hw⟩
      · exact Or.inl h0
      · exact Or.inr ⟨b, o, e, hw.chg k' (fun _ _ h => h)⟩
  have HF : Hid (∀ sa sn sc Y w1, (BNew w.drew w1 sa sn sc Y ∧ TextW Y sn (neg && decide (V ≠ 0)) V ∧ Chg zNone w.drew w1) → ∀ a' c' w2, BAppAll w1 ba bn bc Bs sn Y a' c' w2 → AppP w neg V ba bn bc Bs (.returned (.slice a' (bn + sn) c')) w2) := fun sa sn sc Y w1 h a' c' w2 g => by
    obtain ⟨hbw, ht, k⟩ := h
    obtain ⟨g1, g2, g3, g4, g5⟩ := g
    have k' : Chg zNone w w1 := (Chg.refl zNone w).drew.trans k (fun _ _ _ h => h)
    refine ⟨a', sn, c', Y, rfl, by have := hbw.1; have := hbw.2.1; omega, g1, g2, g3, ht, ?_, (k'.mono (fun _ _ _ h => h.elim)).trans g5 (fun _ _ _ h => h)⟩
    rcases g4 with h | ⟨b, o, e, hb⟩
    · exact Or.inl h
    · exact Or.inr ⟨b, o, e, Nat.le_trans k'.size hb⟩
  obtain ⟨z0, z1, z2, z3⟩ := hz
  clear hx hnx hv hg hb hr
  go_enter Tryz.func99, Tryz.ntmps99
  go_upto_region 3 with fail
  refine wp_region_noPanic ?_
  refine wp_region_any (by kernel_rfl) ?_
  change wpAny _ _ _ _ _ _ _ (World.drew _)
  refine wpAny_take (i := 0) (v := ?_) rfl (by kernel_rfl) (by kernel_rfl) (by kernel_rfl) (fun _ _ _ h => False.elim h) (Or.inl ⟨by rfl, ?_⟩) ?_
  rotate_left 1
  · intro w9
    go_simp
    try with_reducible rfl
  try simp only [putL, putN, List.set_cons_zero, List.set_cons_succ]
  refine wpAny_take (i := 1) (v := ?_) rfl (by kernel_rfl) (by kernel_rfl) (by kernel_rfl) (fun _ _ _ h => False.elim h) (Or.inl ⟨by rfl, ?_⟩) ?_
  rotate_left 1
  · intro w9
    go_simp
    try with_reducible rfl
  try simp only [putL, putN, List.set_cons_zero, List.set_cons_succ]
  refine wpAny_take (i := 2) (v := ?_) rfl (by kernel_rfl) (by kernel_rfl) (by kernel_rfl) (fun _ _ _ h => False.elim h) (Or.inl ⟨by rfl, ?_⟩) ?_
  rotate_left 1
  · intro w9
    go_simp
    try with_reducible rfl
  try simp only [putL, putN, List.set_cons_zero, List.set_cons_succ]
  refine wpAny_take (i := 3) (v := ?_) rfl (by kernel_rfl) (by kernel_rfl) (by kernel_rfl) (fun _ _ _ h => False.elim h) (Or.inl ⟨by rfl, ?_⟩) ?_
  rotate_left 1
  · intro w9
    go_simp
    try with_reducible rfl
  try simp only [putL, putN, List.set_cons_zero, List.set_cons_succ]
  refine wpAny_take (i := 5) (v := ?_) rfl (by kernel_rfl) (by kernel_rfl) (by kernel_rfl) (fun _ _ _ h => False.elim h) (Or.inl ⟨by rfl, ?_⟩) ?_
  rotate_left 1
  · intro w9
    go_simp
    try with_reducible rfl
  try simp only [putL, putN, List.set_cons_zero, List.set_cons_succ]
  refine wpAny_take (i := 6) (v := ?_) rfl (by kernel_rfl) (by kernel_rfl) (by kernel_rfl) (fun _ _ _ h => False.elim h) (Or.inl ⟨by rfl, ?_⟩) ?_
  rotate_left 1
  · intro w9
    go_simp
    try with_reducible rfl
  try simp only [putL, putN, List.set_cons_zero, List.set_cons_succ]
  refine wpAny_take (i := 7) (v := ?_) rfl (by kernel_rfl) (by kernel_rfl) (by kernel_rfl) (fun _ _ _ h => False.elim h) (Or.inl ⟨by rfl, ?_⟩) ?_
  rotate_left 1
  · intro w9
    go_simp
    try with_reducible rfl
  try simp only [putL, putN, List.set_cons_zero, List.set_cons_succ]
  refine wpAny_take (i := 9) (v := ?_) rfl (by kernel_rfl) (by kernel_rfl) (by kernel_rfl) (fun _ _ _ h => False.elim h) (Or.inl ⟨by rfl, ?_⟩) ?_
  rotate_left 1
  · intro w9
    go_simp
    try with_reducible rfl
  try simp only [putL, putN, List.set_cons_zero, List.set_cons_succ]
  refine wpAny_ready (rs := [4, 8]) (by kernel_rfl) (by simp) ?_
  refine AllReady.cons rfl (fun K hK => ?_) (AllReady.cons rfl (fun K hK => ?_) AllReady.nil)
  · skip
    go_simp
    refine hK _ _ ?_
    clear hK K
    try simp only [putL, putN, List.set_cons_zero, List.set_cons_succ]
    refine wpAny_ready (rs := [8]) (by kernel_rfl) (by simp) ?_
    refine AllReady.cons rfl (fun K hK => ?_) AllReady.nil
    go_simp
    refine hK _ _ ?_
    clear hK K
    try simp only [putL, putN, List.set_cons_zero, List.set_cons_succ]
    refine wpAny_ready (rs := [10]) (by kernel_rfl) (by simp) ?_
    refine AllReady.cons rfl (fun K hK => ?_) AllReady.nil
    go_simp
    go_wp2_with (go_at_call 153; go_loud (refine (HI.out _ (Chg.refl _ _).drew).mono ?_; rintro e w1 ⟨sa, sn, sc, Y, rfl, t1, t2, t3⟩; have HT := Lib.hid (And.intro t1 (And.intro t2 t3)); clear t1 t2 t3))
    try simp only [putL, putN, List.set_cons_zero, List.set_cons_succ]
    refine wpAny_ready (rs := [11]) (by kernel_rfl) (by simp) ?_
    refine AllReady.cons rfl (fun K hK => ?_) AllReady.nil
    obtain ⟨sb, so, rfl, hY, hsn, hbz, hbr⟩ := HL.out _ _ _ _ _ HT.out; refine op_append_bytes (.tmp 11) (.tmp 21) rfl ba bn bc Bs sb so sn sc Y rfl rfl hbz hbr hbc hbn hY hsn.1 hsn.2 ?_; rintro a' c' w2 h2; have H2 := Lib.hid h2; clear h2; refine hK _ _ ?_
    clear hK K
    try simp only [putL, putN, List.set_cons_zero, List.set_cons_succ]
    refine wpAny_take (i := 12) (v := ?_) rfl (by kernel_rfl) (by kernel_rfl) (by kernel_rfl) (fun _ _ _ h => False.elim h) (Or.inl ⟨by rfl, ?_⟩) ?_
    rotate_left 1
    · intro w9
      go_simp
      try with_reducible rfl
    try simp only [putL, putN, List.set_cons_zero, List.set_cons_succ]
    refine wpAny_done (by kernel_rfl) ?_ _
    refine NoPanic.normal ?_
    go_wp2
    go_ret
    exact HF.out _ _ _ _ _ HT.out _ _ _ H2.out
  · skip
    go_simp
    refine hK _ _ ?_
    clear hK K
    try simp only [putL, putN, List.set_cons_zero, List.set_cons_succ]
    refine wpAny_ready (rs := [4]) (by kernel_rfl) (by simp) ?_
    refine AllReady.cons rfl (fun K hK => ?_) AllReady.nil
    go_simp
    refine hK _ _ ?_
    clear hK K
    try simp only [putL, putN, List.set_cons_zero, List.set_cons_succ]
    refine wpAny_ready (rs := [10]) (by kernel_rfl) (by simp) ?_
    refine AllReady.cons rfl (fun K hK => ?_) AllReady.nil
    go_simp
    go_wp2_with (go_at_call 153; go_loud (refine (HI.out _ (Chg.refl _ _).drew).mono ?_; rintro e w1 ⟨sa, sn, sc, Y, rfl, t1, t2, t3⟩; have HT := Lib.hid (And.intro t1 (And.intro t2 t3)); clear t1 t2 t3))
    try simp only [putL, putN, List.set_cons_zero, List.set_cons_succ]
    refine wpAny_ready (rs := [11]) (by kernel_rfl) (by simp) ?_
    refine AllReady.cons rfl (fun K hK => ?_) AllReady.nil
    obtain ⟨sb, so, rfl, hY, hsn, hbz, hbr⟩ := HL.out _ _ _ _ _ HT.out; refine op_append_bytes (.tmp 11) (.tmp 21) rfl ba bn bc Bs sb so sn sc Y rfl rfl hbz hbr hbc hbn hY hsn.1 hsn.2 ?_; rintro a' c' w2 h2; have H2 := Lib.hid h2; clear h2; refine hK _ _ ?_
    clear hK K
    try simp only [putL, putN, List.set_cons_zero, List.set_cons_succ]
    refine wpAny_take (i := 12) (v := ?_) rfl (by kernel_rfl) (by kernel_rfl) (by kernel_rfl) (fun _ _ _ h => False.elim h) (Or.inl ⟨by rfl, ?_⟩) ?_
    rotate_left 1
    · intro w9
      go_simp
      try with_reducible rfl
    try simp only [putL, putN, List.set_cons_zero, List.set_cons_succ]
    refine wpAny_done (by kernel_rfl) ?_ _
    refine NoPanic.normal ?_
    go_wp2
    go_ret
    exact HF.out _ _ _ _ _ HT.out _ _ _ H2.out
end Go.Proofs.YtmgfajamanakcaaGreatDoor
namespace Go.Proofs.YtmgfajamanakcaaGreatDoor
set_option linter.unusedVariables false
set_option linter.unusedSimpArgs false
def SB : Int := 65536
def D16 (x : Int) : Prop := 0 ≤ x ∧ x < 65536
def DF (X : Nat → Int) (n : Nat) : Prop := ∀ i, i < n → D16 (X i)
def vs (X : Nat → Int) : Nat → Int
  | 0 => 0
  | n + 1 => vs X n + X n * SB ^ n
theorem SB_pos : (0 : Int) < SB := by decide
theorem SBn_pos (n : Nat) : (0 : Int) < SB ^ n := Int.pow_pos SB_pos
theorem SB_succ (n : Nat) : SB ^ (n + 1) = SB ^ n * SB := Int.pow_succ ..
theorem DF.le {X : Nat → Int} {n m : Nat} (h : DF X n) (hm : m ≤ n) : DF X m := fun i hi => h i (by omega)
theorem vs_congr {X Y : Nat → Int} {n : Nat} (h : ∀ i, i < n → X i = Y i) : vs X n = vs Y n := by
  induction n with
  | zero => rfl
  | succ n ih => simp only [vs]; rw [ih (fun i hi => h i (by omega)), h n (by omega)]
theorem DF.congr {X Y : Nat → Int} {n : Nat} (h : DF X n) (e : ∀ i, i < n → X i = Y i) : DF Y n := fun i hi => by rw [← e i hi]; exact h i hi
theorem vs_nonneg {X : Nat → Int} {n : Nat} (h : DF X n) : 0 ≤ vs X n := by
  induction n with
  | zero => exact Int.le_refl _
  | succ n ih =>
    simp only [vs]
    have := Int.mul_nonneg (h n (by omega)).1 (Int.le_of_lt (SBn_pos n))
    have := ih (h.le (by omega))
    omega
theorem vs_lt {X : Nat → Int} {n : Nat} (h : DF X n) : vs X n < SB ^ n := by
  induction n with
  | zero => simp [vs]
  | succ n ih =>
    simp only [vs]
    have h1 := ih (h.le (by omega))
    have h2 : X n ≤ SB - 1 := by have := (h n (by omega)).2; unfold SB; omega
    have h3 : X n * SB ^ n ≤ (SB - 1) * SB ^ n := Int.mul_le_mul_of_nonneg_right h2 (Int.le_of_lt (SBn_pos n))
    rw [SB_succ]
    have h4 : (SB - 1) * SB ^ n = SB ^ n * SB - SB ^ n := by grind
    omega
theorem vs_add (X : Nat → Int) (k m : Nat) : vs X (k + m) = vs X k + SB ^ k * vs (fun i => X (k + i)) m := by
  induction m with
  | zero => simp [vs]
  | succ m ih =>
    rw [← Nat.add_assoc]
    simp only [vs]
    rw [ih, Int.pow_add]
    grind
theorem vs_zeros {X : Nat → Int} {n : Nat} (h : ∀ i, i < n → X i = 0) : vs X n = 0 := by
  induction n with
  | zero => rfl
  | succ n ih => simp only [vs]; rw [ih (fun i hi => h i (by omega)), h n (by omega)]; simp
theorem vs_top {X : Nat → Int} {m n : Nat} (hm : m ≤ n) (h : ∀ i, m ≤ i → i < n → X i = 0) : vs X n = vs X m := by
  obtain ⟨k, rfl⟩ : ∃ k, n = m + k := ⟨n - m, by omega⟩
  rw [vs_add, vs_zeros (fun i hi => h (m + i) (by omega) (by omega))]
  simp
def DN (X : Nat → Int) (n : Nat) : Prop := n = 0 ∨ X (n - 1) ≠ 0
theorem vs_ge {X : Nat → Int} {n : Nat} (h : DF X n) (hn : DN X n) (h0 : 0 < n) : SB ^ (n - 1) ≤ vs X n := by
  obtain ⟨m, rfl⟩ : ∃ m, n = m + 1 := ⟨n - 1, by omega⟩
  simp only [vs, Nat.add_sub_cancel] at *
  rcases hn with hn | hn
  · omega
  · have h1 := vs_nonneg (h.le (show m ≤ m + 1 by omega))
    have h2 := (h m (by omega)).1
    have h3 := Int.mul_le_mul_of_nonneg_right (show 1 ≤ X m by simp at hn; omega) (Int.le_of_lt (SBn_pos m))
    omega
theorem SB_mono {m n : Nat} (h : m ≤ n) : SB ^ m ≤ SB ^ n := by
  obtain ⟨k, rfl⟩ : ∃ k, n = m + k := ⟨n - m, by omega⟩
  rw [Int.pow_add]
  have h1 := SBn_pos k
  have h2 := Int.mul_le_mul_of_nonneg_left (show 1 ≤ SB ^ k by omega) (Int.le_of_lt (SBn_pos m))
  omega
end Go.Proofs.YtmgfajamanakcaaGreatDoor
