/- Part of the proof of FnParse: what the functions that it reaches do, as contracts. Conditions: those that each theorem names. -/
import Derived.Test.YtmgfajamanakcaaGreatDoorD25
import Derived.Test.YtmgfajamanakcaaGreatDoorD18
import Derived.Test.YtmgfajamanakcaaGreatDoorD16
import Derived.Test.YtmgfajamanakcaaGreatDoorD26
import Derived.Deep.RegionHeld3
import Derived.StillTailTactics
import Derived.Deep.LoopGhost
import Derived.Deep.DeepCutAuto
import Derived.Deep.CutBlock
import Derived.Outline
namespace Go.Proofs.YtmgfajamanakcaaGreatDoor
set_option linter.unusedVariables false
set_option linter.unusedSimpArgs false
open Go.RowKit
set_option maxRecDepth 100000
def zDB (bq oq m bu ou l p : Nat) (d : Option SD) : Zone := fun b o => zRow bq oq m b o ∨ zRow bu ou l b o ∨ zStk p d b o
def DBPost (w : World) (bq oq bu ou m n p : Nat) (d : Option SD) (U V : Nat → Int) (w' : World) : Prop :=
  ∃ Q R d', Words w' bq oq m Q ∧ WF Q m ∧ Words w' bu ou (m + n) R ∧ WF R (m + n) ∧ val Q m = val U (m + n) / val V n ∧ val R (m + n) = val U (m + n) % val V n ∧ Stk w' p d' ∧ StkFrom w d d' ∧ stkL d' = stkL d ∧ Chg (zDB bq oq m bu ou (m + n) p d) w w'
theorem rows_apart {b o n b' o' k : Nat} (h : ∀ i j, i < n → j < k → ¬ (b = b' ∧ o + i = o' + j)) (hn : 0 < n) (hk : 0 < k) : b ≠ b' ∨ o + n ≤ o' ∨ o' + k ≤ o := by
  by_cases e : b = b'
  · refine Or.inr ?_
    by_cases h1 : o + n ≤ o'
    · exact Or.inl h1
    · by_cases h2 : o' + k ≤ o
      · exact Or.inr h2
      · exfalso
        by_cases h3 : o ≤ o'
        · exact h (o' - o) 0 (by omega) hk ⟨e, by omega⟩
        · exact h 0 (o - o') hn (by omega) ⟨e, by omega⟩
  · exact Or.inl e
def DState (w1 : World) (bq oq bu ou bh oh m n : Nat) (U0 V : Nat → Int) (jj : Nat) (x : Int) (wr : World) : Prop :=
  ∃ (U' Q' : Nat → Int), (1 ≤ jj → x = U' (jj - 1 + n)) ∧ U64 x ∧ LInvD U0 V n m jj (val (fun i => Q' (jj + i)) (m - jj) * BB ^ jj) U' ∧ U' (m + n) = 0 ∧ Words wr bu ou (m + n) U' ∧ Free wr bu ou (m + n) ∧ Room wr bh oh (n + 1) ∧ Room wr bq oq m ∧
    (∀ i, jj ≤ i → i < m → wr.cell? ⟨bq, oq + i, none⟩ = some (.int .u64 (Q' i))) ∧ (∀ i, jj ≤ i → i < m → U64 (Q' i)) ∧ Chg (fun b o => zRow bq oq m b o ∨ zRow bu ou (m + n) b o ∨ zRow bh oh (n + 1) b o) w1 wr
def DRel (w1 : World) (bq oq bu ou bh oh m n : Nat) (U0 V : Nat → Int) (s13 s14 : Value) (wr : World) : Prop :=
  ∃ (jj : Nat) (x : Int), s13 = .int .u64 x ∧ s14 = .int .i64 ((jj : Int) - 1) ∧ jj ≤ m + 1 ∧ Hid (DState w1 bq oq bu ou bh oh m n U0 V jj x wr)
def cutW (U : Nat → Int) (l : Nat) (i : Nat) : Int := if i < l then U i else 0
theorem cutW_in {U : Nat → Int} {l i : Nat} (h : i < l) : cutW U l i = U i := if_pos h
theorem cutW_out {U : Nat → Int} {l i : Nat} (h : l ≤ i) : cutW U l i = 0 := if_neg (by omega)
theorem StkFrom.le {w0 : World} {d d' : Option SD} (h : StkFrom w0 d d') : stkL d ≤ stkL d' := by
  cases d with
  | none => exact Nat.zero_le _
  | some d => cases d' with
    | none => exact h.elim
    | some d' => exact h.2.1
theorem StkFrom.reset {w0 : World} {d d' : Option SD} (h : StkFrom w0 d d') : StkFrom w0 d (d'.map fun s => { s with L := stkL d }) ∧ stkL (d'.map fun s => { s with L := stkL d }) = stkL d := by
  cases d with
  | none => cases d' with
    | none => exact ⟨trivial, rfl⟩
    | some d' => exact ⟨h, rfl⟩
  | some d => cases d' with
    | none => exact h.elim
    | some d' => exact ⟨⟨h.1, Nat.le_refl _, h.2.2⟩, rfl⟩
theorem div_stk {w0 w1 wr : World} {bq oq bu ou bh oh ch m n p jj : Nat} {x : Int} {d d1 : Option SD} {U0 V : Nat → Int} (h : DState w1 bq oq bu ou bh oh m n U0 V jj x wr) (g2 : Stk w1 p d1) (g3 : StkFrom w0 d d1) (g6 : bh ≠ p) (g7 : ∀ s, d1 = some s → bh ≠ s.q)
    (lq : bq < w0.heap.size) (lu : bu < w0.heap.size) (zq : ∀ i, i < m → ¬ zStk p d bq (oq + i)) (zu : ∀ i, i < m + n → ¬ zStk p d bu (ou + i)) : Stk wr p d1 := by
  obtain ⟨U', Q', _, _, _, _, hU, hUf, hR, hq, _, _, hk⟩ := h
  have zq1 : ∀ i, i < m → ¬ zStk p d1 bq (oq + i) := fun i hi hh => zq i hi (g3.zone _ _ lq hh)
  have zu1 : ∀ i, i < m + n → ¬ zStk p d1 bu (ou + i) := fun i hi hh => zu i hi (g3.zone _ _ lu hh)
  have key : ∀ b o, zStk p d1 b o → ¬ (zRow bq oq m b o ∨ zRow bu ou (m + n) b o) := by
    rintro b o hh (⟨rfl, h1, h2⟩ | ⟨rfl, h1, h2⟩)
    · exact zq1 (o - oq) (by omega) (by rwa [show oq + (o - oq) = o by omega])
    · exact zu1 (o - ou) (by omega) (by rwa [show ou + (o - ou) = o by omega])
  have hp0 : zStk p d1 p 0 := by
    cases d1 with
    | none => exact ⟨rfl, by omega, by omega⟩
    | some s => exact Or.inl ⟨rfl, by omega, by omega⟩
  refine g2.chg hk ?_ (fun s e => ⟨?_, ?_⟩)
  · rintro (h | h | h)
    · exact key _ _ hp0 (Or.inl h)
    · exact key _ _ hp0 (Or.inr h)
    · exact g6 h.1.symm
  · subst e
    have hq0 : zStk p (some s) s.q 0 := Or.inr (Or.inl ⟨rfl, by omega, by omega⟩)
    rintro (h | h | h)
    · exact key _ _ hq0 (Or.inl h)
    · exact key _ _ hq0 (Or.inr h)
    · exact g7 s rfl h.1.symm
  · rintro b o _ (⟨rfl, h1, h2⟩ | ⟨rfl, h1, h2⟩ | ⟨rfl, h1, h2⟩)
    · obtain ⟨y, hy⟩ := (hq (o - oq) (by omega)).1
      rw [show oq + (o - oq) = o by omega] at hy
      exact ⟨y, hy⟩
    · have hy := hU (o - ou) (by omega)
      rw [show ou + (o - ou) = o by omega] at hy
      exact ⟨_, hy⟩
    · obtain ⟨y, hy⟩ := (hR (o - oh) (by omega)).1
      rw [show oh + (o - oh) = o by omega] at hy
      exact ⟨y, hy⟩
theorem div_end {w0 w1 wr w2 : World} {bq oq bu ou bh oh ch m n p : Nat} {x : Int} {d d1 : Option SD} {U V : Nat → Int} (h : DState w1 bq oq bu ou bh oh m n (cutW U (m + n)) V 0 x wr) (hn : 0 < n) (hV : 0 < val V n) (g3 : StkFrom w0 d d1) (hch : n + 1 ≤ ch) (g9 : ∀ i, i < ch → bh < w0.heap.size → zStk p d bh (oh + i)) (g10 : Chg (zStk p d) w0 w1)
    (lq : bq < w0.heap.size) (lu : bu < w0.heap.size) (zq : ∀ i, i < m → ¬ zStk p d bq (oq + i)) (zu : ∀ i, i < m + n → ¬ zStk p d bu (ou + i)) (hr : RestPost wr p d1 (stkL d) w2) : DBPost w0 bq oq bu ou m n p d U V w2 := by
  obtain ⟨U', Q', _, _, hI, hU0, hU, hUf, hR, hq, hQ, hQw, hk⟩ := h
  obtain ⟨d2, r1, rfl, r2⟩ := hr
  obtain ⟨c1, c2, c3⟩ := hI.done hV hn
  have zq1 : ∀ i, i < m → ¬ zStk p d1 bq (oq + i) := fun i hi hh => zq i hi (g3.zone _ _ lq hh)
  have zu1 : ∀ i, i < m + n → ¬ zStk p d1 bu (ou + i) := fun i hi hh => zu i hi (g3.zone _ _ lu hh)
  have kz : Chg (zStk p d1) wr w2 := by
    refine r2.mono (fun b o _ hh => ?_)
    cases d1 with
    | none => exact hh.elim
    | some s => exact Or.inr (Or.inl hh)
  have t1 : val (cutW U (m + n)) (m + n + 1) = val U (m + n) := by
    rw [val_top (X := cutW U (m + n)) (show m + n ≤ m + n + 1 by omega) (fun i h1 h2 => cutW_out h1)]
    exact val_congr (fun i hi => cutW_in hi)
  have t2 : val U' (m + n + 1) = val U' (m + n) := val_top (by omega) (fun i h1 h2 => by
    obtain rfl : i = m + n := by omega
    exact hU0)
  have t3 : val (fun i => Q' (0 + i)) (m - 0) * BB ^ 0 = val Q' m := by
    rw [Nat.sub_zero, Int.pow_zero, Int.mul_one]
    exact val_congr (fun i hi => by rw [Nat.zero_add])
  rw [t1] at c1 c2
  rw [t2] at c2
  rw [t3] at c1
  obtain ⟨e1, e2⟩ := g3.reset
  refine ⟨Q', U', _, fun i hi => kz.cell (hQ i (Nat.zero_le _) hi) (zq1 i hi), fun i hi => hQw i (Nat.zero_le _) hi, hU.chg kz (fun i hi => zu1 i hi), hI.wf.le (by omega), c1, c2, r1, e1, e2, ?_⟩
  have k1 : Chg (zDB bq oq m bu ou (m + n) p d) w0 wr := by
    refine (g10.mono (fun _ _ _ h => Or.inr (Or.inr h))).trans hk ?_
    rintro b o hb (hh | hh | hh)
    · exact Or.inl hh
    · exact Or.inr (Or.inl hh)
    · obtain ⟨rfl, h1, h2⟩ := hh
      have := g9 (o - oh) (by omega) hb
      rw [show oh + (o - oh) = o by omega] at this
      exact Or.inr (Or.inr this)
  exact k1.trans kz (fun b o hb hh => Or.inr (Or.inr (g3.zone b o hb hh)))
theorem val_top_pos {V : Nat → Int} {n : Nat} (hV : WF V n) (hn : 0 < n) (h : 0 < V (n - 1)) : 0 < val V n := by
  obtain ⟨k, rfl⟩ : ∃ k, n = k + 1 := ⟨n - 1, by omega⟩
  have e2 : val V (k + 1) = val V k + BB ^ k * V k := by rw [val_add, val_one]; rfl
  have a1 := val_nonneg (hV.le (show k ≤ k + 1 by omega))
  have a2 := Int.mul_pos (BBn_pos k) h
  simp only [Nat.add_sub_cancel] at a2
  omega
def winQ (U' V : Nat → Int) (j n : Nat) : Int := val (fun i => U' (j + i)) (n + 1) / val V n
def QGood (U' V : Nat → Int) (j n : Nat) (q : Int) : Prop := U64 q ∧ (q = winQ U' V j n ∨ q = winQ U' V j n + 1)
def QRel (W : World) (U' V : Nat → Int) (j n : Nat) (s15 : Value) (wc : World) : Prop := ∃ (q : Int) (k : Nat), s15 = .int .u64 q ∧ wc = W.drewN k ∧ Hid (QGood U' V j n q)
structure GCtx (U' V : Nat → Int) (j n : Nat) (x vn v2 y1 y2 : Int) : Prop where
  g : Guess (BB ^ (n - 2)) vn v2 (val V (n - 2)) x y1 y2 (val (fun i => U' (j + i)) (n - 2))
  hU : gU (BB ^ (n - 2)) x y1 y2 (val (fun i => U' (j + i)) (n - 2)) = val (fun i => U' (j + i)) (n + 1)
  hV : gV (BB ^ (n - 2)) vn v2 (val V (n - 2)) = val V n
theorem gctx_of {U0 U' V : Nat → Int} {j n m : Nat} {S x vn : Int} (h : LInvD U0 V n m (j + 1) S U') (hj : j ≤ m) (hn : 2 ≤ n) (hV : WF V n) (hbit : BB ≤ 2 * V (n - 1)) (hx : x = U' (j + n)) (hvn : V (n - 1) = vn) : GCtx U' V j n x vn (V (n - 2)) (U' (j + (n - 1))) (U' (j + (n - 2))) := by
  obtain ⟨k, rfl⟩ : ∃ k, n = k + 2 := ⟨n - 2, by omega⟩
  have e1 : k + 2 - 1 = k + 1 := by omega
  have e2 : k + 2 - 2 = k := by omega
  rw [e1] at hvn hbit ⊢
  rw [e2]
  subst hvn; subst hx
  have hw := h.window hj
  have hY : WF (fun i => U' (j + i)) (k + 3) := fun i hi => h.wf _ (by omega)
  exact ⟨by rw [e2]; exact guess_of (V := V) (Y := fun i => U' (j + i)) hV hY hbit hw, by rw [e2]; exact val_guess_U (fun i => U' (j + i)) k, by rw [e2]; exact val_guess_V V k⟩
theorem GCtx.eq {U' V : Nat → Int} {j n : Nat} {x vn v2 y1 y2 : Int} (c : GCtx U' V j n x vn v2 y1 y2) : gU (BB ^ (n - 2)) x y1 y2 (val (fun i => U' (j + i)) (n - 2)) / gV (BB ^ (n - 2)) vn v2 (val V (n - 2)) = winQ U' V j n := by
  rw [c.hU, c.hV]; rfl
theorem GCtx.full {U' V : Nat → Int} {j n : Nat} {x vn v2 y1 y2 : Int} (c : GCtx U' V j n x vn v2 y1 y2) (h : x = vn) : QGood U' V j n 18446744073709551615 := by
  have h1 := c.g.near_top h
  have h2 := c.g.q_lt
  rw [c.eq] at h1 h2
  refine ⟨⟨by decide, by decide⟩, ?_⟩
  unfold BB at h1 h2
  omega
theorem GCtx.near {U' V : Nat → Int} {j n : Nat} {x vn v2 y1 y2 q r : Int} (c : GCtx U' V j n x vn v2 y1 y2) (h : GInv c.g q r) (hq : U64 q) (hl : q * v2 ≤ r * BB + y2 ∨ BB ≤ r) : QGood U' V j n q := by
  refine ⟨hq, ?_⟩
  rw [← c.eq]
  rcases hl with hl | hl
  · exact h.near hq.2 hl
  · exact h.near_over hq.2 hl
theorem GCtx.start {U' V : Nat → Int} {j n : Nat} {x vn v2 y1 y2 : Int} (c : GCtx U' V j n x vn v2 y1 y2) (h : x < vn) : U64 ((x * BB + y1) / vn) ∧ U64 ((x * BB + y1) % vn) ∧ GInv c.g ((x * BB + y1) / vn) ((x * BB + y1) % vn) := by
  have g := c.g
  have hv : 0 < vn := by have := g.hu3; omega
  have hn : 0 ≤ x * BB + y1 := by
    have := Int.mul_nonneg g.hu3 (show (0:Int) ≤ BB by decide)
    have := g.hu2; omega
  have h1 := Int.emod_add_mul_ediv (x * BB + y1) vn
  have h2 := Int.emod_nonneg (x * BB + y1) (show vn ≠ 0 by omega)
  have h3 := Int.emod_lt_of_pos (x * BB + y1) hv
  have h4 := g.hv1'
  have h5 := Int.ediv_nonneg hn (Int.le_of_lt hv)
  have h6 : (x * BB + y1) / vn < BB := by
    rw [Int.ediv_lt_iff_lt_mul hv]
    have h7 := Int.mul_le_mul_of_nonneg_right (show x + 1 ≤ vn by omega) (show (0:Int) ≤ BB by decide)
    have h8 := g.hu2'
    rw [Int.add_mul] at h7
    rw [Int.mul_comm BB]
    omega
  refine ⟨⟨h5, h6⟩, ⟨h2, by unfold BB at h4; omega⟩, ⟨h5, h2, ?_, c.g.guess⟩⟩
  rw [Int.mul_comm]; omega
theorem low_step {x1 x2 q v2 : Int} (h : x1 * BB + x2 = q * v2) (h1 : U64 x1) (h2 : U64 x2) (hv : U64 v2) (hq : 1 ≤ q) :
    (x2 < v2 → U64 (x1 - 1) ∧ U64 (x2 - v2 + BB) ∧ (x1 - 1) * BB + (x2 - v2 + BB) = (q - 1) * v2) ∧ (¬ x2 < v2 → U64 (x2 - v2) ∧ x1 * BB + (x2 - v2) = (q - 1) * v2) := by
  have e : (q - 1) * v2 = q * v2 - v2 := by rw [Int.sub_mul]; omega
  unfold U64 at *
  unfold BB at *
  have hm := Int.mul_le_mul_of_nonneg_right hq hv.1
  constructor
  · intro hlt
    have hx : 1 ≤ x1 := by omega
    exact ⟨⟨by omega, by omega⟩, ⟨by omega, by omega⟩, by rw [e]; omega⟩
  · intro hlt
    exact ⟨⟨by omega, by omega⟩, by rw [e]; omega⟩
theorem wrap_fit {z : Int} (h : U64 z) : IntKind.u64.wrap z = z := by
  rw [wrap_u64]; exact Int.emod_eq_of_lt h.1 h.2
theorem wrap_under {z : Int} (h : U64 (z + BB)) : IntKind.u64.wrap z = z + BB := by
  rw [wrap_u64]; unfold U64 at h; unfold BB at *; omega
theorem wrap_over {z : Int} (h : U64 (z - BB)) : IntKind.u64.wrap z = z - BB := by
  rw [wrap_u64]; unfold U64 at h; unfold BB at *; omega
def RRel {P v1 v2 v0 u3 u2 u1 u0 : Int} (g : Guess P v1 v2 v0 u3 u2 u1 u0) (w : World) (s15 s16 s18 s19 : Value) (wc : World) : Prop :=
  ∃ q r x1 x2 : Int, s15 = .int .u64 q ∧ s16 = .int .u64 r ∧ s18 = .int .u64 x1 ∧ s19 = .int .u64 x2 ∧ wc = w ∧ Hid (GInv g q r ∧ U64 q ∧ U64 r ∧ U64 x1 ∧ U64 x2 ∧ x1 * BB + x2 = q * v2)
set_option maxHeartbeats 8000000 in
theorem divBasic_any (bq oq cq bu ou cu bv ov cv p m n : Nat) (d : Option SD) (U V : Nat → Int) (w : World) (hm : 0 < m) (hn : 2 ≤ n) (hmn : m + n < 17179869184) (hq : Room w bq oq m) (hU : Words w bu ou (m + n) U) (hUf : Free w bu ou (m + n)) (hUw : WF U (m + n)) (hV : Words w bv ov n V) (hVw : WF V n)
    (htop : U (m + n - 1) < V (n - 1)) (hbit : BB ≤ 2 * V (n - 1)) (hS : Stk w p d) (hL : stkL d < 137438953472) (hcu : m + n ≤ cu) (hqu : bq ≠ bu) (hqv : bq ≠ bv) (huv : bu ≠ bv)
    (zq : ∀ i, i < m → ¬ zStk p d bq (oq + i)) (zu : ∀ i, i < m + n → ¬ zStk p d bu (ou + i)) (zv : ∀ i, i < n → ¬ zStk p d bv (ov + i)) :
    Calls Tryz.prog 205 #[.slice (some ⟨bq, oq, none⟩) m cq, .pointer (some ⟨p, 0, none⟩), .slice (some ⟨bu, ou, none⟩) (m + n) cu, .slice (some ⟨bv, ov, none⟩) n cv] w fun e w' => e = .returned (.tuple #[]) ∧ DBPost w bq oq bu ou m n p d U V w' := by
  have HS := Lib.hid (save_any p d w hS)
  have HN := Lib.hid (show Calls Tryz.prog 169 #[.pointer (some ⟨p, 0, none⟩), .int .i64 ((n : Int) + 1)] w (NatPost w p d (n + 1)) from nat_any p d (n + 1) w hS (by omega) (by omega) (by omega))
  have e1 : (((m + n : Nat) : Int)) - (n : Int) = (m : Int) := by omega
  have H := Lib.hid (And.intro hq (And.intro hU (And.intro hUf (And.intro hV (And.intro hUw hVw)))))
  have HZ := Lib.hid (And.intro hqu (And.intro hqv (And.intro huv (And.intro zq (And.intro zu zv)))))
  have HT := Lib.hid (And.intro htop (And.intro hbit hL))
  clear hq hU hUf hUw hV hVw htop hbit hS hqu hqv huv zq zu zv
  go_enter_defers Tryz.func205, Tryz.ntmps205
  go_wp2_with fail
  refine HS.out.mono ?_
  rintro e w0 ⟨rfl, rfl⟩
  go_wp2_with fail
  refine HN.out.mono ?_
  rintro e w1 ⟨d1, bh, oh, ch, rfl, g1, g2, g3, g4, g5, g6, g7, g8, g9, g10⟩
  obtain ⟨hq, hU, hUf, hV, hUw, hVw⟩ := H.out
  obtain ⟨hqu, hqv, huv, zq, zu, zv⟩ := HZ.out
  obtain ⟨htop, hbit, hL⟩ := HT.out
  have lq : bq < w0.heap.size := by obtain ⟨⟨x, hx⟩, _⟩ := hq 0 hm; exact lt_of_cell hx
  have lu : bu < w0.heap.size := lt_of_cell (hU 0 (by omega))
  have lv : bv < w0.heap.size := lt_of_cell (hV 0 (by omega))
  have hhq : ∀ i j, i < n + 1 → j < m → ¬ (bh = bq ∧ oh + i = oq + j) := fun i j hi hj ⟨e1, e2⟩ => zq j hj (by rw [← e1, ← e2]; exact g9 i (by omega) (by omega))
  have hhu : ∀ i j, i < n + 1 → j < m + n → ¬ (bh = bu ∧ oh + i = ou + j) := fun i j hi hj ⟨e1, e2⟩ => zu j hj (by rw [← e1, ← e2]; exact g9 i (by omega) (by omega))
  have hhv : ∀ i j, i < n + 1 → j < n → ¬ (bh = bv ∧ oh + i = ov + j) := fun i j hi hj ⟨e1, e2⟩ => zv j hj (by rw [← e1, ← e2]; exact g9 i (by omega) (by omega))
  obtain ⟨b2, o2, e, hpb, hRh⟩ := g5.room (by omega)
  injection e with e; injection e with e3 e4; subst e3; subst e4
  have hv1 : V (n - 1) < 18446744073709551616 := (hVw (n - 1) (by omega)).2
  have hv0 : 0 < V (n - 1) := by unfold BB at hbit; omega
  have H1 := Lib.hid (show Words w1 bu ou (m + n) U ∧ Free w1 bu ou (m + n) ∧ Room w1 bh oh (n + 1) ∧ Room w1 bq oq m ∧ Words w1 bv ov n V from
    ⟨hU.chg g10 (fun i hi => zu i hi), hUf.chg hU g10, hRh.le g1, hq.chg g10 (fun i hi => zq i hi), hV.chg g10 (fun i hi => zv i hi)⟩)
  have H2 := Lib.hid (And.intro g2 (And.intro g3 (And.intro g4 (And.intro g6 (And.intro g7 (And.intro g8 (And.intro g9 g10)))))))
  have H3 := Lib.hid (And.intro hhq (And.intro hhu hhv))
  have hvc := H1.out.2.2.2.2 (n - 1) (by omega)
  have f1 : (0 : Int) ≤ (n : Int) - 1 := by omega
  have f2 : (n : Int) - 1 < (n : Int) := by omega
  have f3 : ((n : Int) - 1).toNat = n - 1 := by omega
  have HR := Lib.hid (reciprocalWord_any (V (n - 1)) w1 hv0 hv1)
  obtain ⟨vn, hvn⟩ : ∃ x, V (n - 1) = x := ⟨_, rfl⟩
  rw [hvn] at hvc HR hv0 hv1
  have Hvn := Lib.hid hvn
  clear hq hU hUf hV hUw hVw hqu hqv huv zq zu zv htop hbit hL hhq hhu hhv g2 g3 g4 g5 g6 g7 g8 g9 g10 hpb hRh hvn
  go_wp2_with fail
  refine HR.out.mono ?_
  rintro e w2 ⟨rec, rfl, hrec, nd, rfl⟩
  have Hrec := Lib.hid hrec
  clear hrec hvc
  go_wp2_with fail
  go_loopw [13, 14] (fun s13 s14 wr => DRel w1 bq oq bu ou bh oh m n (cutW U (m + n)) V s13 s14 wr) (fun _ s14 _ => (intOf s14 + 1).toNat)
  case atStart =>
    refine ⟨m + 1, 0, rfl, by go_num, Nat.le_refl _, cutW U (m + n), fun _ => 0, fun _ => ?_, ⟨by decide, by decide⟩, ?_, cutW_out (Nat.le_refl _), ?_, H1.out.2.1, H1.out.2.2.1, H1.out.2.2.2.1, fun i h1 h2 => by omega, fun i h1 h2 => by omega, (Chg.refl _ w1).drewN nd⟩
    · exact (cutW_out (by omega)).symm
    · have hst := LInvD.start (U := cutW U (m + n)) (V := V) (n := n) (m := m) (fun i hi => by rw [cutW_in hi]; exact H.out.2.2.2.2.1 i hi) (cutW_out (Nat.le_refl _)) (by omega) H.out.2.2.2.2.2 (by rw [cutW_in (by omega)]; exact HT.out.1)
      rw [show m - (m + 1) = 0 by omega]
      simpa [val] using hst
    · exact H1.out.1.congr (fun i hi => (cutW_in hi).symm)
  case round =>
    obtain ⟨jj, x, rfl, rfl, hjj, HD⟩ := hrel
    by_cases hj0 : jj = 0
    · subst hj0
      have hb : decide ((0 : Int) ≤ ((0 : Nat) : Int) - 1) = false := by decide
      go_wp2
      refine leaves_cons (f := 167) (args := #[.pointer (some ⟨p, 0, none⟩), .int .i64 (stkL d)]) (by simp) (by simp [go_sem]) ?_
      refine (restore_d p d1 (stkL d) .returning _ (div_stk (ch := ch) HD.out H2.out.1 H2.out.2.1 H2.out.2.2.2.1 H2.out.2.2.2.2.1 lq lu HZ.out.2.2.2.1 HZ.out.2.2.2.2.1) H2.out.2.1.le).mono ?_
      rintro e u' w'' ⟨rfl, rfl, hrest⟩
      refine ⟨_, results_none rfl _ _ _, rfl, div_end HD.out (by omega) (val_top_pos H.out.2.2.2.2.2 (by omega) (by rw [Hvn.out]; exact hv0)) H2.out.2.1 g1 H2.out.2.2.2.2.2.2.1 H2.out.2.2.2.2.2.2.2 lq lu HZ.out.2.2.2.1 HZ.out.2.2.2.2.1 hrest⟩
    · obtain ⟨j, rfl⟩ : ∃ k, jj = k + 1 := ⟨jj - 1, by omega⟩
      have hb : decide ((0 : Int) ≤ (j : Int)) = true := by simp
      have e1 : (((j + 1 : Nat) : Int) - 1) = (j : Int) := by omega
      rw [e1]
      clear e1
      obtain ⟨U', Q', hx, hxw, hI, hU0, hU, hUf, hR, hq, hQ, hQw, hk⟩ := HD.out
      have HC := Lib.hid (gctx_of hI (by omega) hn H.out.2.2.2.2.2 HT.out.2.1 (hx (by omega)) Hvn.out)
      obtain ⟨y1, hy1⟩ : ∃ y, U' (j + (n - 1)) = y := ⟨_, rfl⟩
      obtain ⟨y2, hy2⟩ : ∃ y, U' (j + (n - 2)) = y := ⟨_, rfl⟩
      obtain ⟨v2, hv2⟩ : ∃ y, V (n - 2) = y := ⟨_, rfl⟩
      have hc1 := hU (j + (n - 1)) (by omega)
      have hc2 := hU (j + (n - 2)) (by omega)
      have hwV := H1.out.2.2.2.2.chg hk (by
        rintro i hi (h | h | h)
        · exact HZ.out.2.1 h.1.symm
        · exact HZ.out.2.2.1 h.1.symm
        · obtain ⟨h1, h2, h3⟩ := h
          exact H3.out.2.2 (ov + i - oh) i (by omega) hi ⟨h1.symm, by omega⟩)
      have hc3 := hwV (n - 2) (by omega)
      have Hw2 : Hid (U64 y1 ∧ U64 y2 ∧ U64 v2) := by
        unfold Hid
        rw [← hy1, ← hy2, ← hv2]
        exact ⟨hI.wf _ (by omega), hI.wf _ (by omega), H.out.2.2.2.2.2 _ (by omega)⟩
      rw [hy1] at hc1
      rw [hy2] at hc2
      rw [hv2] at hc3
      rw [hy1, hy2, hv2] at HC
      have a1 : (0 : Int) ≤ (j : Int) + (n : Int) - 1 := by omega
      have a2 : (j : Int) + (n : Int) - 1 < ((m + n : Nat) : Int) := by omega
      have a3 : ((j : Int) + (n : Int) - 1).toNat = j + (n - 1) := by omega
      have a4 : (0 : Int) ≤ (j : Int) + (n : Int) - 2 := by omega
      have a5 : (j : Int) + (n : Int) - 2 < ((m + n : Nat) : Int) := by omega
      have a6 : ((j : Int) + (n : Int) - 2).toNat = j + (n - 2) := by omega
      have a7 : (0 : Int) ≤ (n : Int) - 2 := by omega
      have a8 : (n : Int) - 2 < (n : Int) := by omega
      have a9 : ((n : Int) - 2).toNat = n - 2 := by omega
      have HU := Lib.hid (And.intro hx (And.intro hxw (And.intro hI (And.intro hU0 (And.intro hU (And.intro hUf (And.intro hR (And.intro hq (And.intro hQ (And.intro hQw hk))))))))))
      have HV := Lib.hid hwV
      clear hx hI hU0 hU hUf hR hq hQ hQw hk hy1 hy2 hv2 hwV
      go_upto_if 51 with fail
      go_cut [15, 16, 17, 18, 19, 20] from 45 to 200 (fun s15 s16 s17 s18 s19 s20 wc => QRel wr U' V j n s15 wc)
      case first => as_aux_lemma =>
        by_cases hxv : x = vn
        · have hne : (x != vn) = false := bne_eq_false_iff_eq.2 hxv
          have HQ := Lib.hid (HC.out.full hxv)
          clear hxv
          go_wp2_with fail
          go_meet
          exact ⟨_, 0, rfl, rfl, HQ.out⟩
        · have hne : (x != vn) = true := bne_iff_ne.2 hxv
          have hlt : x < vn := by have := HC.out.g.top; omega
          have HW := Lib.hid (divWW_any x y1 vn rec wr hxw Hw2.out.1 ⟨by omega, hv1⟩ hlt Hrec.out)
          have HQ := Lib.hid (HC.out.start hlt)
          clear hxv
          go_wp2_with fail
          refine HW.out.mono ?_
          rintro e w2 ⟨rfl, rfl⟩
          obtain ⟨q0, hq0⟩ : ∃ z, (x * BB + y1) / vn = z := ⟨_, rfl⟩
          obtain ⟨r0, hr0⟩ : ∃ z, (x * BB + y1) % vn = z := ⟨_, rfl⟩
          rw [hq0, hr0] at HQ ⊢
          clear hq0 hr0
          have HM := Lib.hid (mulWW_any q0 v2 wr HQ.out.1 Hw2.out.2.2)
          go_wp2_with fail
          refine HM.out.mono ?_
          rintro e w2 ⟨hi, lo, rfl, hm2, rfl⟩
          have Hm2 := Lib.hid hm2
          clear hm2
          go_wp2_with fail
          go_loopw [15, 16, 18, 19] (fun s15 s16 s18 s19 wc => RRel HC.out.g wr s15 s16 s18 s19 wc) (fun s15 _ _ _ _ => (intOf s15).toNat)
          case atStart => exact ⟨q0, r0, hi, lo, rfl, rfl, rfl, rfl, rfl, HQ.out.2.2, HQ.out.1, HQ.out.2.1, Hm2.out.1, Hm2.out.2.1, Hm2.out.2.2⟩
          case round =>
            obtain ⟨q, r, x1, x2, rfl, rfl, rfl, rfl, rfl, HG⟩ := hrel
            have HT2 := Lib.hid (greaterThan_any x1 x2 r y2 wr HG.out.2.2.2.1 HG.out.2.2.2.2.1 HG.out.2.2.1 Hw2.out.2.1)
            by_cases hgt : r * BB + y2 < x1 * BB + x2
            · rw [decide_eq_true hgt] at HT2
              have hdn := HG.out.1.down (by rw [← HG.out.2.2.2.2.2]; exact hgt)
              have hq1 : 1 ≤ q := by have := hdn.q0; omega
              have hlow := low_step HG.out.2.2.2.2.2 HG.out.2.2.2.1 HG.out.2.2.2.2.1 Hw2.out.2.2 hq1
              have hqw : U64 (q - 1) := ⟨by omega, by have := HG.out.2.1.2; omega⟩
              obtain ⟨qm, hqm⟩ : ∃ z, q - 1 = z := ⟨_, rfl⟩
              have s1 : IntKind.u64.wrap (q - 1) = qm := by rw [← hqm]; exact wrap_fit hqw
              rw [hqm] at hdn hlow hqw
              have hqlt : qm < q := by omega
              obtain ⟨r2, s2⟩ : ∃ z, IntKind.u64.wrap (r + vn) = z := ⟨_, rfl⟩
              by_cases hov : r + vn < 18446744073709551616
              · have hr2 : r2 = r + vn := by rw [← s2]; exact wrap_fit ⟨hdn.r0, hov⟩
                have d1 : decide (r2 < vn) = false := by have := HG.out.2.2.1.1; simp; omega
                rw [← hr2] at hdn
                have hr2w : U64 r2 := ⟨hdn.r0, by omega⟩
                obtain ⟨x1m, s3⟩ : ∃ z, IntKind.u64.wrap (x1 - 1) = z := ⟨_, rfl⟩
                obtain ⟨x2m, s4⟩ : ∃ z, IntKind.u64.wrap (x2 - v2) = z := ⟨_, rfl⟩
                by_cases hlt2 : x2 < v2
                · have d2 : decide (x2 < v2) = true := by simp [hlt2]
                  obtain ⟨l1, l2, l3⟩ := hlow.1 hlt2
                  have t1 : x1m = x1 - 1 := by rw [← s3]; exact wrap_fit l1
                  have t2 : x2m = x2 - v2 + BB := by rw [← s4]; exact wrap_under l2
                  rw [← t1] at l1 l3
                  rw [← t2] at l2 l3
                  have HN2 := Lib.hid (And.intro hdn (And.intro hqw (And.intro hr2w (And.intro l1 (And.intro l2 l3)))))
                  have hq0 : 0 ≤ qm := hqw.1
                  clear hdn hlow hqw hqm hr2 hr2w l1 l2 l3 t1 t2 hgt hlt2 hov
                  go_wp2_with fail
                  refine HT2.out.mono ?_
                  rintro e w3 ⟨rfl, rfl⟩
                  go_wp2_with fail
                  go_roundw
                  case rel => exact ⟨qm, r2, x1m, x2m, rfl, rfl, rfl, rfl, rfl, HN2.out⟩
                  case measure => simp [intOf]; omega
                · have d2 : decide (x2 < v2) = false := by simp; omega
                  obtain ⟨l2, l3⟩ := hlow.2 hlt2
                  have t2 : x2m = x2 - v2 := by rw [← s4]; exact wrap_fit l2
                  rw [← t2] at l2 l3
                  have HN2 := Lib.hid (And.intro hdn (And.intro hqw (And.intro hr2w (And.intro HG.out.2.2.2.1 (And.intro l2 l3)))))
                  have hq0 : 0 ≤ qm := hqw.1
                  clear hdn hlow hqw hqm hr2 hr2w l2 l3 t2 hgt hlt2 hov s3
                  go_wp2_with fail
                  refine HT2.out.mono ?_
                  rintro e w3 ⟨rfl, rfl⟩
                  go_wp2_with fail
                  go_roundw
                  case rel => exact ⟨qm, r2, x1, x2m, rfl, rfl, rfl, rfl, rfl, HN2.out⟩
                  case measure => simp [intOf]; omega
              · have hrv : U64 (r + vn - BB) := by
                  have := HG.out.2.2.1.2
                  unfold U64 BB; omega
                have hr2 : r2 = r + vn - BB := by rw [← s2]; exact wrap_over hrv
                have d1 : decide (r2 < vn) = true := by
                  have := HG.out.2.2.1.2
                  unfold BB at hr2
                  simp; omega
                have HN2 := Lib.hid (HC.out.near hdn hqw (Or.inr (by unfold BB; omega)))
                clear hdn hlow hqw hqm hr2 hrv hgt hov
                go_wp2_with fail
                refine HT2.out.mono ?_
                rintro e w3 ⟨rfl, rfl⟩
                go_wp2_with fail
                go_meet
                exact ⟨qm, 0, rfl, rfl, HN2.out⟩
            · rw [decide_eq_false hgt] at HT2
              have HN2 := Lib.hid (HC.out.near HG.out.1 HG.out.2.1 (Or.inl (by rw [← HG.out.2.2.2.2.2]; omega)))
              clear hgt
              go_wp2_with fail
              refine HT2.out.mono ?_
              rintro e w3 ⟨rfl, rfl⟩
              go_wp2_with fail
              go_meet
              exact ⟨q, 0, rfl, rfl, HN2.out⟩
      case rest => as_aux_lemma =>
        obtain ⟨q, k, rfl, rfl, HQ⟩ := hcut
        clear hc1 hc2 hc3
        have HM := Lib.hid (mulAddVWW_any bv ov bh oh n cv ch V q 0 (wr.drewN k) (by omega) HV.out H.out.2.2.2.2.2 (HU.out.2.2.2.2.2.2.1.le (by omega)) (by
          rcases rows_apart H3.out.2.2 (by omega) (by omega) with h | h | h
          · exact Or.inl (fun e => h e.symm)
          · exact Or.inr (Or.inl (by omega))
          · exact Or.inr (Or.inr (by omega))) HQ.out.1 ⟨by decide, by decide⟩)
        have b1 : (0 : Int) ≤ (n : Int) := by omega
        have b2 : (n : Int) ≤ (ch : Int) := by omega
        have b3 : (n : Int) < (n : Int) + 1 := by omega
        by_cases hjm : j = m
        · have hVp := val_top_pos H.out.2.2.2.2.2 (by omega) (by rw [Hvn.out]; exact hv0)
          have hW : val (fun i => U' (m + i)) (n + 1) < val V n := by
            have hI := HU.out.2.2.1
            rw [hjm] at hI
            refine first_win hI (by rw [show m - (m + 1) = 0 by omega]; simp [val]) (fun i hi => by rw [cutW_in hi]; exact H.out.2.2.2.2.1 i hi) (cutW_out (Nat.le_refl _)) (by omega) H.out.2.2.2.2.2 (by rw [cutW_in (by omega)]; exact HT.out.1)
          have hUw : WF (fun i => U' (m + i)) (n + 1) := fun i hi => HU.out.2.2.1.wf _ (by omega)
          have hw0 : winQ U' V m n = 0 := Int.ediv_eq_zero_of_lt (val_nonneg hUw) hW
          have hq01 : q = 0 ∨ q = 1 := by
            have := HQ.out.2
            rw [hjm, hw0] at this
            omega
          have HW := Lib.hid (And.intro hVp (And.intro hW (And.intro hUw (And.intro hw0 (And.intro hq01 hjm)))))
          have c1 : decide ((m : Int) + (n : Int) < (j : Int) + ((n : Int) + 1)) = true := by simp; omega
          have hju : j + n ≤ m + n := by omega
          clear hVp hW hUw hw0 hq01 hjm
          go_wp2_with fail
          refine HM.out.mono ?_
          rintro e w2 ⟨c, rfl, Z, h1, h2, h3, h4, h5⟩
          have hc0 : c = 0 := top_carry h3 h4.1 H.out.2.2.2.2.2 (by rcases HW.out.2.2.2.2.1 with h | h <;> omega) h5
          subst hc0
          have hR2 := HU.out.2.2.2.2.2.2.1.chg ((Chg.refl zNone wr).drewN k) (fun i hi h => h)
          obtain ⟨⟨z0, hz0⟩, hz1⟩ := hR2 n (by omega)
          have hz2 := h1.cell hz0 (fun h => by have := h.2.2; omega)
          have hz3 := (h1.frozen hz0 (oh + n)).trans hz1
          have HX := Lib.hid (subtop_of (k := k) (q := q) HU.out.2.2.2.2.1 HU.out.2.2.2.2.2.1 HU.out.2.2.1.wf HU.out.2.2.2.2.2.2.1 H3.out.2.1 h1 h2 h3 (V := V) (by rw [Int.zero_mul] at h5; omega) (by rw [hz2]; rfl))
          have HSub := Lib.hid (subVV_any bu (ou + m) bh oh bu (ou + m) n (cu - m) ch (cu - m) (fun i => U' (m + i)) Z _ (by omega) HX.out.drew.hY HX.out.wY HX.out.drew.hP HX.out.wP HX.out.drew.rY (Or.inr (Or.inl (Nat.le_refl _))) (HX.out.fwd (by omega) H3.out.2.1))
          rw [← HW.out.2.2.2.2.2] at HSub
          clear h1 h2 h3 h4 h5 hR2 hz0 hz1
          have s1 : IntKind.i64.wrap ((j : Int) + (n : Int)) = (j : Int) + (n : Int) := IntWalk.i64_in _ (by omega)
          have s2 : ((j : Int) + (n : Int)).toNat = j + n := by omega
          have s3 : (j : Int) ≤ (j : Int) + (n : Int) := by omega
          have s4 : (j : Int) + (n : Int) ≤ (cu : Int) := by omega
          have s5 : ¬ (cu = j) := by omega
          have s6 : (0 : Int) ≤ (j : Int) := by omega
          go_wp2_with fail
          refine wp_region_noPanic ?_
          go_still_tail 15, (by kernel_rfl)
          go_wp2_with (go_at_call 173; go_loud (refine HSub.out.mono ?_; rintro e w4 ⟨cb, rfl, D, h1, h2, h3, h4, h5⟩; have HD2 := Lib.hid (And.intro h1 (And.intro h2 (And.intro h3 (And.intro h4 h5)))); clear h1 h2 h3 h4 h5))
          refine NoPanic.normal ?_
          go_upto_if 148 with fail
          go_cut [15, 23] from 45 to 200 (fun s15 s23 wc => s15 = .int .u64 0 ∧ Hid (DMid wr bq oq bu ou bh oh m n m U' V wc))
          case first => as_aux_lemma =>
            have HD3 := HD2.out
            rw [HW.out.2.2.2.2.2] at HD3
            have HTD := Lib.hid (top_digit (U' := U') (V := V) (D := D) (q := q) (cb := cb) H.out.2.2.2.2.2 HW.out.1 HD3.2.2.1 HD3.2.2.2.1 HU.out.2.2.2.1 HW.out.2.1 HW.out.2.2.1 HW.out.2.2.2.2.1 (by rw [← HX.out.vP]; exact HD3.2.2.2.2))
            have kd4 : Chg zNone w4 w4.drew := (Chg.refl _ _).drew
            have HRh := Lib.hid (HX.out.drew.rh.chg HD3.1 (fun i hi hh => by
              obtain ⟨g1, g2, g3⟩ := hh
              exact H3.out.2.1 i (oh + i - ou) hi (by omega) ⟨g1, by omega⟩))
            have HK4 := Lib.hid ((HX.out.drew.k.mono (Z' := zWin bu ou bh oh m n m) (fun _ _ _ h => Or.inr h)).trans HD3.1 (fun b o _ hh => Or.inl ⟨hh.1, hh.2.1, by have := hh.2.2; omega, by have := hh.2.2; omega⟩))
            rcases HW.out.2.2.2.2.1 with hq0 | hq1
            · obtain ⟨t1, t3⟩ := HTD.out.1 hq0
              have HMid : Hid (DMid wr bq oq bu ou bh oh m n m U' V w4) :=
                mid_of (E := D) HU.out.2.2.2.2.1 HU.out.2.2.2.2.2.1 HRh.out HU.out.2.2.2.1 (Nat.le_refl _) H3.out.2.1 HK4.out HD3.2.1 HD3.2.2.1 t3 (fun h => absurd h (Nat.lt_irrefl _))
              have Hq := Lib.hid hq0
              subst t1
              clear t3 hq0 HD3 kd4
              go_wp2_with fail
              go_meet
              exact ⟨by rw [Hq.out], HMid.out⟩
            · obtain ⟨t1, t2⟩ := HTD.out.2 hq1
              subst t1
              have HO := Lib.hid t2
              obtain ⟨qm, s10⟩ : ∃ z, IntKind.u64.wrap (q - 1) = z := ⟨_, rfl⟩
              have Hqm : Hid (qm = 0) := by
                unfold Hid
                rw [← s10, hq1]; rfl
              have hVw4 : Words w4 bv ov n V := by
                refine ((HV.out.chg HX.out.drew.k ?_).chg HD3.1 ?_)
                · rintro i hi ⟨g1, g2, g3⟩
                  exact H3.out.2.2 (ov + i - oh) i (by omega) hi ⟨g1.symm, by omega⟩
                · rintro i hi hh
                  exact HZ.out.2.2.1 hh.1.symm
              have hRu4 : Room w4 bu (ou + m) n := HD3.2.1.room (fun i hi => by
                obtain ⟨⟨y, hy⟩, hf⟩ := HX.out.drew.rY i hi
                rw [HD3.1.frozen hy]; exact hf)
              have HAdd := Lib.hid (addVV_any bu (ou + m) bv ov bu (ou + m) n (cu - m) cv (cu - m) D V w4.drew (by omega) (HD3.2.1.chg kd4 (fun _ _ h => h)) HD3.2.2.1 (hVw4.chg kd4 (fun _ _ h => h)) H.out.2.2.2.2.2 (hRu4.chg kd4 (fun _ _ h => h)) (Or.inr (Or.inl (Nat.le_refl _))) (Or.inl (fun e => HZ.out.2.2.1 e.symm)))
              rw [← HW.out.2.2.2.2.2] at HAdd
              have HRh4 := Lib.hid (HRh.out.chg kd4 (fun _ _ h => h))
              have r5 : decide ((n : Int) < (n : Int)) = false := by simp
              clear hVw4 hRu4 kd4 hq1 t2 HD3
              go_wp2_with fail
              refine wp_region_noPanic ?_
              go_still_tail 13, (by kernel_rfl)
              go_wp2_with (go_at_call 171; go_loud (refine HAdd.out.mono ?_; rintro e w5 ⟨c2, rfl, E, h1, h2, h3, h4, h5⟩; have HE2 := Lib.hid (And.intro h1 (And.intro h2 (And.intro h3 (And.intro h4 h5)))); clear h1 h2 h3 h4 h5))
              refine NoPanic.normal ?_
              have HE3 := HE2.out
              rw [HW.out.2.2.2.2.2] at HE3
              have HMid : Hid (DMid wr bq oq bu ou bh oh m n m U' V w5) := by
                refine mid_of (E := E) HU.out.2.2.2.2.1 HU.out.2.2.2.2.2.1 (HRh4.out.chg HE3.1 (fun i hi hh => ?_)) HU.out.2.2.2.1 (Nat.le_refl _) H3.out.2.1 ((HK4.out.drew).trans HE3.1 (fun b o _ hh => Or.inl ⟨hh.1, hh.2.1, by have := hh.2.2; omega, by have := hh.2.2; omega⟩)) HE3.2.1 HE3.2.2.1 (HO.out E c2 HE3.2.2.1 HE3.2.2.2.1 HE3.2.2.2.2) (fun h => absurd h (Nat.lt_irrefl _))
                obtain ⟨g1, g2, g3⟩ := hh
                exact H3.out.2.1 i (oh + i - ou) hi (by omega) ⟨g1, by omega⟩
              clear HE3
              go_wp2_with fail
              go_meet
              exact ⟨by rw [Hqm.out], HMid.out⟩
          case rest => as_aux_lemma =>
            obtain ⟨rfl, HMid⟩ := hcut
            obtain ⟨U2, p1, p2, p3, p4, p5, p6, p7, p8, p9⟩ := HMid.out
            have hjm := HW.out.2.2.2.2.2
            have hI0 := HU.out.2.2.1
            rw [hjm] at hI0
            have hI := hI0.step (U' := U2) (Nat.le_refl m) HW.out.1 p1 p2 p3 p4
            have hI2 : val (fun i => U' (m + i)) (n + 1) / val V n = winQ U' V m n := rfl
            rw [hI2, HW.out.2.2.2.1, show m - (m + 1) = 0 by omega] at hI
            have hI3 : LInvD (cutW U (m + n)) V n m m (val (fun i => Q' (m + i)) (m - m) * BB ^ m) U2 := by
              rw [Nat.sub_self]
              simpa [val] using hI
            have hqz : ∀ i, i < m → ¬ (zRow bu ou (m + n) bq (oq + i) ∨ zRow bh oh (n + 1) bq (oq + i)) := by
              rintro i hi (hh | hh)
              · exact HZ.out.1 hh.1
              · obtain ⟨g1, g2, g3⟩ := hh
                exact H3.out.1 (oq + i - oh) i (by omega) hi ⟨g1.symm, by omega⟩
            have hqr := HU.out.2.2.2.2.2.2.2.1.chg p9 (fun i hi => hqz i hi)
            obtain ⟨yq, hyq⟩ : ∃ z, U2 (m + (n - 1)) = z := ⟨_, rfl⟩
            have hc9 : wc.cell? ⟨bu, ou + (j + (n - 1)), none⟩ = some (.int .u64 yq) := by
              rw [hjm, ← hyq]
              exact p6 (m + (n - 1)) (by omega)
            have hyw : U64 yq := by rw [← hyq]; exact p2 (n - 1) (by omega)
            have HF : Hid (DState w1 bq oq bu ou bh oh m n (cutW U (m + n)) V j yq wc) := by
              rw [hjm]
              refine ⟨U2, Q', fun h1 => ?_, hyw, hI3, p5, p6, p7, p8, hqr, fun i h1 h2 => absurd h2 (by omega), fun i h1 h2 => absurd h2 (by omega), HU.out.2.2.2.2.2.2.2.2.2.2.trans p9 (fun b o _ hh => Or.inr hh)⟩
              rw [← hyq]; congr 1; omega
            have d9 : ((j : Int) == (m : Int)) = true := by simp [hjm]
            have hj9 : j ≤ m + 1 := by omega
            clear p1 p2 p3 p4 p5 p6 p7 p8 p9 hI0 hI hI2 hI3 hqz hqr hyq hyw hjm
            go_wp2_with fail
            go_roundw
            case rel => exact ⟨j, yq, rfl, by go_num, hj9, HF.out⟩
            case measure => simp [intOf]
        · have c1 : decide ((m : Int) + (n : Int) < (j : Int) + ((n : Int) + 1)) = false := by simp; omega
          go_wp2_with fail
          refine HM.out.mono ?_
          rintro e w2 ⟨c, rfl, Z, h1, h2, h3, h4, h5⟩
          have hR2 := HU.out.2.2.2.2.2.2.1.chg ((Chg.refl zNone wr).drewN k) (fun i hi h => h)
          obtain ⟨⟨z0, hz0⟩, hz1⟩ := hR2 n (by omega)
          have hz2 := h1.cell hz0 (fun h => by have := h.2.2; omega)
          have hz3 := (h1.frozen hz0 (oh + n)).trans hz1
          have HP := Lib.hid (And.intro h1 (And.intro h2 (And.intro h3 (And.intro h4 h5))))
          clear h1 h2 h3 h4 h5 hR2 hz0 hz1
          go_wp2_with fail
          have s1 : IntKind.i64.wrap ((j : Int) + ((n : Int) + 1)) = (j : Int) + ((n : Int) + 1) := IntWalk.i64_in _ (by omega)
          have s2 : ((j : Int) + ((n : Int) + 1)).toNat = j + (n + 1) := by omega
          have s3 : (j : Int) ≤ (j : Int) + ((n : Int) + 1) := by omega
          have s4 : (j : Int) + ((n : Int) + 1) ≤ (cu : Int) := by omega
          have s5 : ¬ (cu = j) := by omega
          have s6 : (0 : Int) ≤ (j : Int) := by omega
          have s7 : (0 : Int) ≤ (n : Int) + 1 := by omega
          have s8 : (n : Int) + 1 ≤ (ch : Int) := by omega
          have s9 : ((n : Int) + 1).toNat = n + 1 := by omega
          have HX := Lib.hid (subctx_of (k := k) HU.out.2.2.2.2.1 HU.out.2.2.2.2.2.1 HU.out.2.2.1.wf HU.out.2.2.2.2.2.2.1 (show j < m by omega) H3.out.2.1 HP.out.1 HP.out.2.1 HP.out.2.2.1 HP.out.2.2.2.1 HP.out.2.2.2.2 (by rw [hz2]; rfl))
          have HSub := Lib.hid (subVV_any bu (ou + j) bh oh bu (ou + j) (n + 1) (cu - j) ch (cu - j) (fun i => U' (j + i)) (upd Z n c) _ (by omega) HX.out.drew.hY HX.out.wY HX.out.drew.hP HX.out.wP HX.out.drew.rY (Or.inr (Or.inl (Nat.le_refl _))) (HX.out.fwd (show j < m by omega) H3.out.2.1))
          refine wp_region_noPanic ?_
          go_still_tail 15, (by kernel_rfl)
          go_wp2_with (go_at_call 173; go_loud (refine HSub.out.mono ?_; rintro e w4 ⟨cb, rfl, D, h1, h2, h3, h4, h5⟩; have HD2 := Lib.hid (And.intro h1 (And.intro h2 (And.intro h3 (And.intro h4 h5)))); clear h1 h2 h3 h4 h5))
          refine NoPanic.normal ?_
          go_upto_if 148 with fail
          go_cut [15, 23] from 45 to 200 (fun s15 s23 wc => s15 = .int .u64 (winQ U' V j n) ∧ Hid (DMid wr bq oq bu ou bh oh m n j U' V wc))
          case first => as_aux_lemma =>
            have hVp := val_top_pos H.out.2.2.2.2.2 (by omega) (by rw [Hvn.out]; exact hv0)
            rcases HQ.out.2 with hqq | hqq
            · obtain ⟨t1, t2, t3⟩ := sub_good (U' := U') (V := V) (j := j) H.out.2.2.2.2.2 hVp HD2.out.2.2.1 HD2.out.2.2.2.1 HX.out.vP HD2.out.2.2.2.2 hqq
              have HMid : Hid (DMid wr bq oq bu ou bh oh m n j U' V w4) := by
                refine mid_of (E := D) HU.out.2.2.2.2.1 HU.out.2.2.2.2.2.1 ?_ HU.out.2.2.2.1 (by omega) H3.out.2.1 ?_ (HD2.out.2.1.le (by omega)) (HD2.out.2.2.1.le (by omega)) t3 (fun _ => ?_)
                · exact HX.out.drew.rh.chg HD2.out.1 (fun i hi hh => by
                    obtain ⟨g1, g2, g3⟩ := hh
                    exact H3.out.2.1 i (oh + i - ou) hi (by omega) ⟨g1, by omega⟩)
                · exact (HX.out.drew.k.mono (fun _ _ _ h => Or.inr h)).trans HD2.out.1 (fun b o _ hh => Or.inl ⟨hh.1, hh.2.1, by have := hh.2.2; omega, by have := hh.2.2; omega⟩)
                · have := HD2.out.2.1 n (by omega)
                  rwa [t2] at this
              have Hq := Lib.hid hqq
              subst t1
              clear t2 t3 hqq hVp
              go_wp2_with fail
              go_meet
              exact ⟨by rw [Hq.out], HMid.out⟩
            · obtain ⟨t1, t2⟩ := sub_over (U' := U') (V := V) (j := j) (E := fun _ => 0) (c2 := 0) H.out.2.2.2.2.2 hVp HD2.out.2.2.1 HD2.out.2.2.2.1 HX.out.vP HD2.out.2.2.2.2 hqq
              subst t1
              have HO := Lib.hid (fun (E : Nat → Int) (c2 : Int) => (sub_over (U' := U') (V := V) (j := j) (E := E) (c2 := c2) H.out.2.2.2.2.2 hVp HD2.out.2.2.1 HD2.out.2.2.2.1 HX.out.vP HD2.out.2.2.2.2 hqq).2)
              have hW0 : 0 ≤ winQ U' V j n := Int.ediv_nonneg (val_nonneg HX.out.wY) (Int.le_of_lt hVp)
              have hq1 : U64 (q - 1) := by
                have := HQ.out.1.2
                have : q = winQ U' V j n + 1 := hqq
                exact ⟨by omega, by omega⟩
              obtain ⟨qm, s10⟩ : ∃ z, IntKind.u64.wrap (q - 1) = z := ⟨_, rfl⟩
              have hqm : qm = winQ U' V j n := by
                rw [← s10, wrap_fit hq1]
                have : q = winQ U' V j n + 1 := hqq
                omega
              have Hqm := Lib.hid hqm
              clear t2 hqq hVp hW0 hq1 hqm
              have hVw4 : Words w4 bv ov n V := by
                refine ((HV.out.chg HX.out.drew.k ?_).chg HD2.out.1 ?_)
                · rintro i hi ⟨g1, g2, g3⟩
                  exact H3.out.2.2 (ov + i - oh) i (by omega) hi ⟨g1.symm, by omega⟩
                · rintro i hi hh
                  exact HZ.out.2.2.1 hh.1.symm
              have hRu4 : Room w4 bu (ou + j) (n + 1) := HD2.out.2.1.room (fun i hi => by
                obtain ⟨⟨y, hy⟩, hf⟩ := HX.out.drew.rY i hi
                rw [HD2.out.1.frozen hy]; exact hf)
              have kd4 : Chg zNone w4 w4.drew := (Chg.refl _ _).drew
              have HAdd := Lib.hid (addVV_any bu (ou + j) bv ov bu (ou + j) n (cu - j) cv (cu - j) D V w4.drew (by omega) ((HD2.out.2.1.le (by omega)).chg kd4 (fun _ _ h => h)) (HD2.out.2.2.1.le (by omega)) (hVw4.chg kd4 (fun _ _ h => h)) H.out.2.2.2.2.2 ((hRu4.le (by omega)).chg kd4 (fun _ _ h => h)) (Or.inr (Or.inl (Nat.le_refl _))) (Or.inl (fun e => HZ.out.2.2.1 e.symm)))
              have HR4 := Lib.hid hRu4
              have HRh := Lib.hid ((HX.out.drew.rh.chg HD2.out.1 (fun i hi hh => by
                obtain ⟨g1, g2, g3⟩ := hh
                exact H3.out.2.1 i (oh + i - ou) hi (by omega) ⟨g1, by omega⟩)).chg kd4 (fun _ _ h => h))
              clear hVw4 hRu4 kd4
              have r1 : IntKind.i64.wrap ((j : Int) + (n : Int)) = (j : Int) + (n : Int) := IntWalk.i64_in _ (by omega)
              have r2 : ((j : Int) + (n : Int)).toNat = j + n := by omega
              have r3 : (j : Int) ≤ (j : Int) + (n : Int) := by omega
              have r4 : (j : Int) + (n : Int) ≤ (cu : Int) := by omega
              have r5 : decide ((n : Int) < (n : Int) + 1) = true := by simp; omega
              have r6 : (0 : Int) ≤ (j : Int) + (n : Int) := by omega
              have r7 : (j : Int) + (n : Int) < ((m + n : Nat) : Int) := by omega
              go_wp2_with fail
              refine wp_region_noPanic ?_
              go_still_tail 13, (by kernel_rfl)
              go_wp2_with (go_at_call 171; go_loud (refine HAdd.out.mono ?_; rintro e w5 ⟨c2, rfl, E, h1, h2, h3, h4, h5⟩; have HE2 := Lib.hid (And.intro h1 (And.intro h2 (And.intro h3 (And.intro h4 h5)))); clear h1 h2 h3 h4 h5))
              refine NoPanic.normal ?_
              obtain ⟨u1, u2⟩ := HO.out E c2 HE2.out.2.2.1 HE2.out.2.2.2.1 HE2.out.2.2.2.2
              have hc5 : w5.cell? ⟨bu, ou + (j + n), none⟩ = some (.int .u64 (D n)) := by
                have := HE2.out.1.cell (HD2.out.2.1 n (by omega)) (fun hh => by have := hh.2.2; omega)
                rwa [show ou + j + n = ou + (j + n) by omega] at this
              have hf5 : w5.frozen? ⟨bu, ou + (j + n), none⟩ = false := by
                obtain ⟨⟨y, hy⟩, hf⟩ := HR4.out n (by omega)
                have := (HE2.out.1.frozen hy (ou + j + n)).trans hf
                rwa [show ou + j + n = ou + (j + n) by omega] at this
              obtain ⟨dn, hdn⟩ : ∃ z, D n = z := ⟨_, rfl⟩
              rw [hdn] at hc5 u2
              obtain ⟨zt, s11⟩ : ∃ z, IntKind.u64.wrap (dn + c2) = z := ⟨_, rfl⟩
              have hzt : zt = 0 := by
                unfold BB at u2
                rw [← s11, wrap_u64]; exact u2
              have HMid : Hid (DMid wr bq oq bu ou bh oh m n j U' V (w5.setCell ⟨bu, ou + (j + n), none⟩ (.int .u64 zt))) := by
                have k5 := chg_cell w5 bu (ou + (j + n)) (.int .u64 zt)
                refine mid_of (E := E) HU.out.2.2.2.2.1 HU.out.2.2.2.2.2.1 ?_ HU.out.2.2.2.1 (by omega) H3.out.2.1 ?_ (HE2.out.2.1.chg k5 (fun i hi hh => by have := hh.2.1; omega)) HE2.out.2.2.1 u1 (fun _ => ?_)
                · refine (HRh.out.chg HE2.out.1 (fun i hi hh => ?_)).chg k5 (fun i hi hh => ?_)
                  · obtain ⟨g1, g2, g3⟩ := hh
                    exact H3.out.2.1 i (oh + i - ou) hi (by omega) ⟨g1, by omega⟩
                  · obtain ⟨g1, g2, g3⟩ := hh
                    exact H3.out.2.1 i (j + n) hi (by omega) ⟨g1, by omega⟩
                · refine ((((HX.out.drew.k.mono (fun _ _ _ h => Or.inr h)).trans HD2.out.1 (fun b o _ hh => Or.inl ⟨hh.1, hh.2.1, by have := hh.2.2; omega, by have := hh.2.2; omega⟩)).drew).trans HE2.out.1 (fun b o _ hh => Or.inl ⟨hh.1, hh.2.1, by have := hh.2.2; omega, by have := hh.2.2; omega⟩)).trans k5 (fun b o _ hh => Or.inl ⟨hh.1, by have := hh.2.1; omega, by have := hh.2.2; omega, by have := hh.2.2; omega⟩)
                · rw [show ou + j + n = ou + (j + n) by omega, ← hzt]
                  exact cs_same hc5
              clear u1 u2 hdn hzt
              go_wp2_with fail
              go_meet
              exact ⟨by rw [Hqm.out], HMid.out⟩
          case rest => as_aux_lemma =>
            obtain ⟨rfl, HMid⟩ := hcut
            obtain ⟨U2, p1, p2, p3, p4, p5, p6, p7, p8, p9⟩ := HMid.out
            have hVp := val_top_pos H.out.2.2.2.2.2 (by omega) (by rw [Hvn.out]; exact hv0)
            have hwq0 : 0 ≤ winQ U' V j n := Int.ediv_nonneg (val_nonneg (fun i hi => HU.out.2.2.1.wf _ (by omega))) (Int.le_of_lt hVp)
            have hwqw : U64 (winQ U' V j n) := by
              have h1 := HQ.out.1.2
              refine ⟨hwq0, ?_⟩
              rcases HQ.out.2 with h | h <;> omega
            have hI := HU.out.2.2.1.step (U' := U2) (by omega) hVp p1 p2 p3 p4
            have hI2 : val (fun i => U' (j + i)) (n + 1) / val V n = winQ U' V j n := rfl
            rw [hI2] at hI
            obtain ⟨wq, hwq⟩ : ∃ z, winQ U' V j n = z := ⟨_, rfl⟩
            rw [hwq] at hI hwqw ⊢
            have hsum := sum_step (Q := upd Q' j wq) (j := j) (m := m) (by omega)
            rw [upd_same, val_congr (X := fun i => upd Q' j wq (j + 1 + i)) (Y := fun i => Q' (j + 1 + i)) (fun i hi => upd_other _ _ (by omega))] at hsum
            rw [← hsum] at hI
            have hqz : ∀ i, i < m → ¬ (zRow bu ou (m + n) bq (oq + i) ∨ zRow bh oh (n + 1) bq (oq + i)) := by
              rintro i hi (hh | hh)
              · exact HZ.out.1 hh.1
              · obtain ⟨g1, g2, g3⟩ := hh
                exact H3.out.1 (oq + i - oh) i (by omega) hi ⟨g1.symm, by omega⟩
            have hqr := HU.out.2.2.2.2.2.2.2.1.chg p9 (fun i hi => hqz i hi)
            obtain ⟨⟨z9, hz9⟩, hf9⟩ := hqr j (by omega)
            have hc9 := p6 (j + (n - 1)) (by omega)
            obtain ⟨yq, hyq⟩ : ∃ z, U2 (j + (n - 1)) = z := ⟨_, rfl⟩
            rw [hyq] at hc9
            have hyw : U64 yq := by rw [← hyq]; exact p2 (n - 1) (by omega)
            have kq := chg_cell wc bq (oq + j) (.int .u64 wq)
            have HF : Hid (DState w1 bq oq bu ou bh oh m n (cutW U (m + n)) V j yq (wc.setCell ⟨bq, oq + j, none⟩ (.int .u64 wq))) := by
              refine ⟨U2, upd Q' j wq, fun h1 => ?_, hyw, hI, p5, p6.chg kq (fun i hi hh => HZ.out.1 hh.1.symm), p7.chg p6 kq, p8.chg kq (fun i hi hh => ?_), hqr.setInt bq (oq + j) wq, fun i h1 h2 => ?_, fun i h1 h2 => ?_, ?_⟩
              · rw [← hyq]; congr 1; omega
              · obtain ⟨g1, g2, g3⟩ := hh
                exact H3.out.1 i j hi (by omega) ⟨g1, by omega⟩
              · by_cases e : i = j
                · subst e; rw [upd_same]; exact cs_same hz9
                · rw [upd_other _ _ e]
                  exact kq.cell (p9.cell (HU.out.2.2.2.2.2.2.2.2.1 i (by omega) h2) (hqz i h2)) (fun hh => by have := hh.2; omega)
              · by_cases e : i = j
                · subst e; rw [upd_same]; exact hwqw
                · rw [upd_other _ _ e]; exact HU.out.2.2.2.2.2.2.2.2.2.1 i (by omega) h2
              · exact ((HU.out.2.2.2.2.2.2.2.2.2.2.trans p9 (fun b o _ hh => Or.inr hh))).trans kq (fun b o _ hh => Or.inl ⟨hh.1, by have := hh.2.1; omega, by have := hh.2.2; omega⟩)
            have d9 : ((j : Int) == (m : Int)) = false := beq_false_of_ne (by omega)
            have d10 : (j : Int) < (m : Int) := by omega
            have d11 : (0 : Int) ≤ (j : Int) := by omega
            clear p1 p2 p3 p4 p5 p6 p7 p8 p9 hVp hwq0 hwqw hI hI2 hsum hqz hqr hyq hyw kq hwq
            go_wp2_with fail
            go_roundw
            case rel => exact ⟨j, yq, rfl, by go_num, by omega, HF.out⟩
            case measure => simp [intOf]
end Go.Proofs.YtmgfajamanakcaaGreatDoor
