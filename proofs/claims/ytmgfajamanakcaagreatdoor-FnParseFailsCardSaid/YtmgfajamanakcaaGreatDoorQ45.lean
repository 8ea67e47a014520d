/-
  (*Rat).SetString without a stroke, on a text that is no number, walked; the empty text. Conditions: as Rt's.
  Float.scan: what it leaves, and what stands ahead of its last rounding. Conditions: the text is short; the Float new.
  Float.scan's last steps: the power of five, the quotient and the product. Conditions: as PreRnd says.
-/
import Derived.Test.YtmgfajamanakcaaGreatDoorQ44
import Derived.Test.YtmgfajamanakcaaGreatDoorQ43
import Derived.Outline
import Derived.Test.YtmgfajamanakcaaGreatDoorQ36
import Derived.Lib.TrailingZeros
namespace Go.Proofs.YtmgfajamanakcaaGreatDoor
set_option linter.unusedSimpArgs false
open Go.RowKit
set_option maxRecDepth 100000
set_option linter.unusedVariables false
def decOk (s : ByteArray) : Prop := (scanS 0 true s (signAt s 0).2).err = 0 ∧ (scanE true s (scanS 0 true s (signAt s 0).2).p).err = 0 ∧ (scanE true s (scanS 0 true s (signAt s 0).2).p).p = s.size
theorem PErrs.far {Z : Zone} {w w' : World} (h : PErrs w) (k : Chg Z w w') (hz : ∀ b, b < 14 → ¬ Z b 0) : PErrs w' := by
  obtain ⟨⟨a, h1, h2⟩, ⟨b, h3, h4⟩⟩ := h
  exact ⟨⟨a, k.cell h1 (hz _ (by omega)), h2⟩, ⟨b, k.cell h3 (hz _ (by omega)), h4⟩⟩
set_option maxHeartbeats 1000000 in
theorem RatSet_empty (s : ByteArray) (rb : Nat) (w : World) (h0 : s.size = 0) : Calls Tryz.prog 68 #[.pointer (some ⟨rb, 0, none⟩), .string s] w (RatBad w rb) := by
  have hne0 : ((s.size : Int) == 0) = true := by rw [h0]; rfl
  go_enter Tryz.func68, Tryz.ntmps68
  go_wp2
  go_ret2
  exact ⟨rfl, Chg.refl _ _⟩
theorem runE_ok {sep : Bool} {s : ByteArray} : ∀ (k p : Nat) (st : ES), p ≤ (runE sep s k p st).1 ∧ (runE sep s k p st).1 ≤ p + k ∧ ∀ i, p ≤ i → i < (runE sep s k p st).1 → okB (byteAt s i)
  | 0, p, st => ⟨Nat.le_refl _, Nat.le_refl _, fun i h1 h2 => by simp only [runE] at h2; omega⟩
  | k + 1, p, st => by
    cases h : stepE sep st (bAt s p) with
    | none => simp only [runE, h]; exact ⟨Nat.le_refl _, by omega, fun i h1 h2 => by omega⟩
    | some st' =>
      simp only [runE, h]
      obtain ⟨h1, h2, h3⟩ := runE_ok (sep := sep) (s := s) k (p + 1) st'
      refine ⟨by omega, by omega, fun i hi1 hi2 => ?_⟩
      rcases Nat.eq_or_lt_of_le hi1 with e | e
      · subst e
        unfold stepE at h
        rw [bAt_int] at h
        unfold okB
        split at h
        · rename_i hh; exact Or.inl hh
        · split at h
          · rename_i hh; have := hh.1; omega
          · cases h
      · exact h3 i e hi2
theorem endE_p {b : Int} {q : Nat} {st : ES} : (endE b q st).p = q := by
  unfold endE
  split
  · rfl
  · split <;> rfl
theorem scanE_ok {sep : Bool} {s : ByteArray} {p : Nat} (hp : p ≤ s.size) : p ≤ (scanE sep s p).p ∧ (scanE sep s p).p ≤ s.size ∧ ∀ i, p ≤ i → i < (scanE sep s p).p → okB (byteAt s i) := by
  unfold scanE
  split
  · rename_i hlt
    cases hb : expBase (byteAt s p) with
    | none => exact ⟨Nat.le_refl _, hp, fun i h1 h2 => by simp only at h2; omega⟩
    | some b =>
      simp only [endE_p]
      have hc : okB (byteAt s p) := by
        unfold expBase at hb
        unfold okB
        split at hb
        · omega
        · split at hb
          · omega
          · cases hb
      have hS : p + 1 ≤ (expSign s (p + 1)).1 ∧ (expSign s (p + 1)).1 ≤ s.size ∧ ∀ i, p + 1 ≤ i → i < (expSign s (p + 1)).1 → okB (byteAt s i) := by
        unfold expSign
        split
        · rename_i hh
          refine ⟨by simp only; omega, by simp only; omega, fun i h1 h2 => ?_⟩
          simp only at h2
          obtain rfl : i = p + 1 := by omega
          unfold okB; omega
        · split
          · rename_i hh
            refine ⟨by simp only; omega, by simp only; omega, fun i h1 h2 => ?_⟩
            simp only at h2
            obtain rfl : i = p + 1 := by omega
            unfold okB; omega
          · exact ⟨by simp only; omega, by simp only; omega, fun i h1 h2 => by simp only at h2; omega⟩
      have hR := runE_ok (sep := sep) (s := s) (s.size - (expSign s (p + 1)).1) (expSign s (p + 1)).1 ⟨46, false, false, (expSign s (p + 1)).2⟩
      refine ⟨?_, ?_, fun i h1 h2 => ?_⟩
      · have := hR.1; unfold runX; omega
      · have := hR.2.1; unfold runX; omega
      · unfold runX at h2
        rcases Nat.eq_or_lt_of_le h1 with e | e
        · subst e; exact hc
        · rcases Nat.lt_or_ge i (expSign s (p + 1)).1 with h | h
          · exact hS.2.2 i e h
          · exact hR.2.2 i h h2
  · exact ⟨Nat.le_refl _, hp, fun i h1 h2 => by simp only at h2; omega⟩
set_option maxHeartbeats 8000000 in
theorem RatSet_plain (s : ByteArray) (rb : Nat) (aE a1 a2 : Addr) (w : World) (hs : s.size < 1048576) (hs0 : 0 < s.size) (hrb : 14 ≤ rb)
    (hE : Errs w (.iface 229 (.pointer (some aE))) (.iface 229 (.pointer (some a1))) (.iface 229 (.pointer (some a2)))) (hPE : PErrs w) (hA : IntC w rb 0 false none 0 0)
    (hst : stroke s = none) (hbad : ¬ decOk s) :
    Calls Tryz.prog 68 #[.pointer (some ⟨rb, 0, none⟩), .string s] w (RatBad w rb) := by
  have hlt := hA.lt
  have hne0 : ((s.size : Int) == 0) = false := beq_false_of_ne (by omega)
  have HZ := Lib.hid (show Calls Tryz.prog 124 #[.string s, .string ⟨#[47]⟩] w fun e w' => e = .returned (.int .i64 (-1)) ∧ w = w' by
    have := zzIndex_any s w hs
    rwa [zzAt_no hst] at this)
  have HN := Lib.hid (NewReader_any s w)
  have kal : Chg zNone w (w.alloc (.cells #[.string s, .int .i64 0, .int .i64 (-1)] 225)) := (Chg.refl _ _).alloc _
  have HE1 := Lib.hid (hE.chg kal (fun _ h => h))
  have HP1 := Lib.hid (hPE.chg kal (fun _ h => h))
  have HA1 := Lib.hid (hA.chg kal (fun _ _ h => h))
  have HK1 : Hid (Chg (zRow rb 0 4) w (w.alloc (.cells #[.string s, .int .i64 0, .int .i64 (-1)] 225))) := (Chg.refl _ _).alloc _
  have HG := Lib.hid (scanSign_more w.heap.size s 0 _ (rd_new s w) hs0 (by omega))
  have hq := signAt_le hs0
  unfold decOk at hbad
  obtain ⟨sg, hsg⟩ : ∃ x, signAt s 0 = x := ⟨_, rfl⟩
  rw [hsg] at hq HG hbad
  obtain ⟨neg, q⟩ := sg
  simp only at hq HG hbad
  obtain ⟨sc, hsc⟩ : ∃ x, scanS 0 true s q = x := ⟨_, rfl⟩
  have Hsc := Lib.hid hsc
  have Hpo := Lib.hid (show sc.p ≤ s.size by rw [← hsc]; exact (scanS_ok hq (by omega)).2.1)
  rw [hsc] at hbad
  obtain ⟨ex, hex⟩ : ∃ x, scanE true s sc.p = x := ⟨_, rfl⟩
  have Hex := Lib.hid hex
  have Hpx := Lib.hid (show ex.p ≤ s.size by rw [← hex]; exact (scanE_ok Hpo.out).2.1)
  rw [hex] at hbad
  have Hbad := Lib.hid hbad
  clear hE hPE hA kal hst hbad hsg hsc hex
  go_enter Tryz.func68, Tryz.ntmps68
  go_wp2_with fail
  refine HZ.out.mono ?_
  rintro e w0 ⟨rfl, rfl⟩
  go_wp2_with fail
  refine HN.out.mono ?_
  rintro e w1 ⟨rfl, rfl⟩
  go_wp2_with fail
  refine HG.out.mono ?_
  rintro e w2 ⟨rfl, h1, h2⟩
  have HE2 := Lib.hid (HE1.out.chg h2 (fun _ => zrow_zero))
  have HP2 := Lib.hid (HP1.out.chg h2 (fun _ => zrow_zero))
  have HA2 := Lib.hid (HA1.out.chg h2 (fun o ho hh => by have := hh.1; omega))
  have HK2 := Lib.hid (HK1.out.trans h2 (fun b o hb hh => by have := hh.1; omega))
  have HS2 := Lib.hid (scan_any w.heap.size s q 0 true aE _ _ w2 h1 hs hq (by omega) HE2.out (Or.inl rfl))
  rw [Hsc.out] at HS2
  clear h1 h2
  obtain ⟨ha0, ha1, ha2, ha3⟩ := HA2.out
  go_wp2_with fail
  refine HS2.out.mono ?_
  rintro e w3 ⟨a, n, c, rfl, h1, h2, h3⟩
  clear ha0 ha1 ha2 ha3
  have HA3 := Lib.hid (HA2.out.chg h3 (fun o ho hh => by have := hh.1; omega))
  have HK3 := Lib.hid (HK2.out.trans h3 (fun b o hb hh => by have := hh.1; omega))
  have HE3 := Lib.hid (HE2.out.chg h3 (fun _ => zrow_zero))
  have HP3 := Lib.hid (HP2.out.chg h3 (fun _ => zrow_zero))
  have HR3 := Lib.hid h2
  clear h1 h2 h3
  obtain ⟨ha0, ha1, ha2, ha3⟩ := HA3.out
  have kc : Chg (zRow rb 1 1) w3 (w3.setCell ⟨rb, 1, none⟩ (.slice a n c)) := chg_cell _ _ _ _
  have HKA : Hid (Chg (zRow rb 0 4) w (w3.setCell ⟨rb, 1, none⟩ (.slice a n c))) := HK3.out.setCell rb 1 _ (fun _ => ⟨rfl, by omega, by omega⟩)
  by_cases h0 : sc.err = 0
  · rw [if_pos h0]
    have HEA := Lib.hid (HE3.out.far kc (fun b hb hh => by have := hh.1; omega))
    have HX := Lib.hid (scanExponent_any w.heap.size s sc.p true aE _ _ (w3.setCell ⟨rb, 1, none⟩ (.slice a n c)) (HR3.out.chg kc (fun o _ hh => by have := hh.1; omega)) hs Hpo.out (by omega) a2 rfl HEA.out (HP3.out.far kc (fun b hb hh => by have := hh.1; omega)))
    rw [Hex.out] at HX
    clear kc
    go_wp2_with fail
    refine HX.out.mono ?_
    rintro e w4 ⟨v, ev, rfl, _, hev, h1, h2⟩
    have HK4 := Lib.hid (HKA.out.trans h2 (fun b o hb hh => by have := hh.1; omega))
    have HE4 := Lib.hid (HEA.out.chg h2 (fun _ => zrow_zero))
    have HR4 := Lib.hid (read_head w.heap.size s ex.p _ w4 h1 (by omega) Hpx.out (by omega) HE4.out.eof)
    clear h1 h2
    rcases hev with ⟨hx0, rfl⟩ | hev
    · go_wp2_with fail
      refine HR4.out.mono ?_
      rintro e w5 ⟨more, c5, rfl, h1, h2⟩
      have Hm := Lib.hid h1.2.1
      have he5 : w5.cell? ⟨0, 0, none⟩ = some (.iface 229 (.pointer (some aE))) := h2.cell HE4.out.eof zrow_zero
      have HK5 := Lib.hid (HK4.out.trans h2 (fun b o hb hh => by have := hh.1; omega))
      clear h1 h2
      cases more with
      | true =>
        rw [errOf_true]
        have hnn := nil_neq aE
        go_wp2
        go_ret2
        exact ⟨rfl, HK5.out⟩
      | false =>
        exfalso
        have h5 := Hpx.out
        have h6 : ex.p = s.size := by
          rcases Nat.lt_or_ge ex.p s.size with h | h
          · have := Hm.out.2 h; cases this
          · omega
        exact Hbad.out ⟨h0, hx0, h6⟩
    · rcases hev with ⟨_, rfl⟩ | ⟨_, rfl⟩ | ⟨_, N, rfl⟩
      · go_wp2
        go_ret2
        exact ⟨rfl, HK4.out⟩
      · go_wp2
        go_ret2
        exact ⟨rfl, HK4.out⟩
      · go_wp2
        go_ret2
        exact ⟨rfl, HK4.out⟩
  · rw [if_neg h0]
    clear kc
    by_cases h1 : sc.err = 1
    · rw [if_pos h1]
      go_wp2
      go_ret2
      exact ⟨rfl, HKA.out⟩
    · rw [if_neg h1]
      go_wp2
      go_ret2
      exact ⟨rfl, HKA.out⟩
end Go.Proofs.YtmgfajamanakcaaGreatDoor
namespace Go.Proofs.YtmgfajamanakcaaGreatDoor
set_option linter.unusedSimpArgs false
open Go.RowKit
set_option maxRecDepth 100000
set_option linter.unusedVariables false
/-- What the program's variables hold. -/
structure FEnv (w : World) (aE a1 a2 : Addr) : Prop where
  errs : Errs w (.iface 229 (.pointer (some aE))) (.iface 229 (.pointer (some a1))) (.iface 229 (.pointer (some a2)))
  perrs : PErrs w
  tab : Tab5 w
  k1 : w.cell? ⟨1, 0, none⟩ = some (.int .i64 40)
  k4 : w.cell? ⟨4, 0, none⟩ = some (.int .i64 40)
  k5 : w.cell? ⟨5, 0, none⟩ = some (.int .i64 12)
  k6 : w.cell? ⟨6, 0, none⟩ = some (.int .i64 80)
  deb : ∀ j : Nat, j < 64 → w.cell? ⟨11, j, none⟩ = some (.int .u8 ((Lib.deBruijn64tab.getD j 0 : Nat) : Int))
  sz : 14 ≤ w.heap.size
theorem FEnv.far {Z : Zone} {w w' : World} {aE a1 a2 : Addr} (h : FEnv w aE a1 a2) (k : Chg Z w w') (hz : ∀ b o, b < 14 → ¬ Z b o) : FEnv w' aE a1 a2 :=
  ⟨h.errs.far k (fun b hb => hz b 0 hb), h.perrs.far k (fun b hb => hz b 0 hb), fun i hi => k.cell (h.tab i hi) (hz _ _ (by omega)), k.cell h.k1 (hz _ _ (by omega)), k.cell h.k4 (hz _ _ (by omega)), k.cell h.k5 (hz _ _ (by omega)), k.cell h.k6 (hz _ _ (by omega)), fun j hj => k.cell (h.deb j hj) (hz _ _ (by omega)), by have := k.size; have := h.sz; omega⟩
/-- The zone of a reader and of a Float. -/
def zFS (br zb : Nat) : Zone := zOr (zRow br 1 2) (zRow zb 0 7)
def precOf (p : Int) : Int := if p = 0 then 64 else p
/-- The value that was read: N / D times 2^E. -/
def numOf (sc : Scan) (ex : EScan) : Int := sc.V * 5 ^ (x5of sc ex).toNat
def denOf (sc : Scan) (ex : EScan) : Int := 5 ^ (-(x5of sc ex)).toNat
/-- The Float that a scan without an error leaves. -/
def FSNum (w : World) (zb : Nat) (v : FV) (neg : Bool) (sc : Scan) (ex : EScan) (P : Nat) (w' : World) : Prop :=
  (sc.V = 0 ∧ ∃ v', FltC w' zb v' ∧ v'.p = P ∧ v'.md = v.md ∧ v'.ac = 0 ∧ v'.fm = 0 ∧ v'.ng = neg) ∨
    (sc.V ≠ 0 ∧ ∃ v' Y, FNum w' zb v' Y ∧ v'.p = P ∧ v'.md = v.md ∧ (v'.fm = 1 → 64 * v'.n ≤ P + 63) ∧ (∀ b o, v'.a = some ⟨b, o, none⟩ → w.heap.size ≤ b) ∧
      (-27 ≤ x5of sc ex → x5of sc ex ≤ 27 → -134217728 ≤ x2of sc ex → x2of sc ex ≤ 134217728 → v'.ng = neg ∧ FVal v' Y neg (numOf sc ex) (denOf sc ex) (x2of sc ex) P v.md))
/-- What a scan without an error leaves. -/
structure FSRes (w : World) (br zb : Nat) (s : ByteArray) (v : FV) (neg : Bool) (sc : Scan) (ex : EScan) (P : Nat) (w' : World) : Prop where
  chg : Chg (zFS br zb) w w'
  rd : RdAt w' br s ex.p
  num : FSNum w zb v neg sc ex P w'
theorem FSNum.chg {Z : Zone} {w wc wd : World} {zb P : Nat} {v : FV} {neg : Bool} {sc : Scan} {ex : EScan} (h : FSNum w zb v neg sc ex P wc) (k : Chg Z wc wd) (h1 : ∀ o, ¬ Z zb o) (h2 : ∀ b o, w.heap.size ≤ b → ¬ Z b o) : FSNum w zb v neg sc ex P wd := by
  rcases h with ⟨h0, v', g1, g2⟩ | ⟨h0, v', Y, g1, g2, g3, g4, g5, g6⟩
  · exact Or.inl ⟨h0, v', g1.chg k (fun o _ => h1 o), g2⟩
  · refine Or.inr ⟨h0, v', Y, g1.chg k ?_, g2, g3, g4, g5, g6⟩
    rintro b o (hz | ⟨po, e, _⟩)
    · rw [hz.1]; exact h1 o
    · exact h2 b o (g5 b po e)
def FSBad (w : World) (br zb : Nat) (e : Ending) (w' : World) : Prop :=
  ∃ b t v, e = .returned (.tuple #[.pointer none, .int .i64 b, .iface t v]) ∧ Chg (zFS br zb) w w'
/-- A scan has no error. -/
def scanGood (sc : Scan) (ex : EScan) : Prop := sc.err = 0 ∧ ex.err = 0
def scanFar (sc : Scan) (ex : EScan) : Prop := sc.V ≠ 0 ∧ ¬ (-1073741824 ≤ x2of sc ex ∧ x2of sc ex ≤ 1073741824)
def FSPost (w : World) (br zb : Nat) (s : ByteArray) (v : FV) (neg : Bool) (sc : Scan) (ex : EScan) (P : Nat) (e : Ending) (w' : World) : Prop :=
  (scanGood sc ex ∧ e = .returned (.tuple #[.pointer (some ⟨zb, 0, none⟩), .int .i64 sc.b, .nilIface]) ∧ FSRes w br zb s v neg sc ex P w') ∨
  ((¬ scanGood sc ex ∨ scanFar sc ex) ∧ FSBad w br zb e w')
/-- Ahead of the last rounding. -/
structure PreRnd (w : World) (br zb : Nat) (s : ByteArray) (v : FV) (neg : Bool) (sc : Scan) (ex : EScan) (P : Nat) (wc : World) (v1 : FV) (Z : Nat → Int) : Prop where
  num : FNum wc zb v1 Z
  p : v1.p = P
  md : v1.md = v.md
  fm : v1.fm = 1
  ng : v1.ng = neg
  few : v1.n ≤ 10
  fr : ∀ b o, v1.a = some ⟨b, o, none⟩ → w.heap.size ≤ b
  vl : ∃ sh : Nat, sh < 64 ∧ val Z v1.n = sc.V * 2 ^ sh ∧ v1.e = 64 * v1.n - sh + x2of sc ex
  rd : RdAt wc br s ex.p
  chg : Chg (zFS br zb) w wc
  lz : zb < w.heap.size
  lr : br < w.heap.size
  ne : zb ≠ br
theorem PreRnd.far {w wc wd : World} {br zb : Nat} {s : ByteArray} {v : FV} {neg : Bool} {sc : Scan} {ex : EScan} {P : Nat} {v1 : FV} {Z : Nat → Int} (h : PreRnd w br zb s v neg sc ex P wc v1 Z) (k : Chg zNone wc wd) : PreRnd w br zb s v neg sc ex P wd v1 Z :=
  ⟨h.num.chg k (fun _ _ _ h => h), h.p, h.md, h.fm, h.ng, h.few, h.fr, h.vl, h.rd.chg k (fun _ _ h => h), h.chg.trans k (fun _ _ _ h => h.elim), h.lz, h.lr, h.ne⟩
theorem PreRnd.nz {w wc : World} {br zb : Nat} {s : ByteArray} {v : FV} {neg : Bool} {sc : Scan} {ex : EScan} {P : Nat} {v1 : FV} {Z : Nat → Int} (h : PreRnd w br zb s v neg sc ex P wc v1 Z) : sc.V ≠ 0 := by
  obtain ⟨sh, h1, h2, h3⟩ := h.vl
  obtain ⟨g1, g2, g3, g4, g5, g6⟩ := h.num.fin h.fm
  have := (val_ge_top g5 g1 g6).1
  have hp : (0 : Int) < 2 ^ (64 * v1.n - 1) := Int.pow_pos (by decide)
  intro h0
  rw [h0, Int.zero_mul] at h2
  omega
/-- Behind the last step. -/
theorem PreRnd.fin {w wc w' : World} {br zb : Nat} {s : ByteArray} {v : FV} {neg : Bool} {sc : Scan} {ex : EScan} {P : Nat} {v1 : FV} {Z : Nat → Int} (h : PreRnd w br zb s v neg sc ex P wc v1 Z) {v' : FV} {Y : Nat → Int} (hn : FNew wc zb v1 w' v' Y)
    (hl : v'.fm = 1 → 64 * v'.n ≤ P + 63)
    (hv : -27 ≤ x5of sc ex → x5of sc ex ≤ 27 → -134217728 ≤ x2of sc ex → x2of sc ex ≤ 134217728 → v'.ng = neg ∧ FVal v' Y neg (numOf sc ex) (denOf sc ex) (x2of sc ex) P v.md) : FSRes w br zb s v neg sc ex P w' := by
  have hfar : ∀ b o, b < w.heap.size → zF zb v1 b o → zRow zb 0 7 b o := by
    rintro b o hb (hz | ⟨po, e, _⟩)
    · exact hz
    · have := h.fr _ _ e; omega
  refine ⟨h.chg.trans hn.chg (fun b o hb hz => Or.inr (hfar b o hb hz)), h.rd.chg hn.chg (fun o _ hz => h.ne (hfar br o h.lr hz).1.symm), Or.inr ⟨h.nz, v', Y, hn.num, hn.p.trans h.p, hn.md.trans h.md, hl, ?_, hv⟩⟩
  intro b o e
  rcases hn.home with ⟨e1, _⟩ | ⟨b2, o2, e2, hb⟩
  · exact h.fr b o (e1 ▸ e)
  · rw [e2] at e
    injection e with e
    injection e with e
    have := h.chg.size
    omega
theorem FVal.unshift {v : FV} {Y : Nat → Int} {neg : Bool} {N D E md : Int} {p c d : Nat} (h : FVal v Y neg (N * 2 ^ c) (D * 2 ^ d) E p md) : FVal v Y neg N D (E + c - d) p md := by
  obtain ⟨h1, m, t, h2, h3⟩ := h
  refine ⟨h1, m, t + d - c, h2.unshift, ?_⟩
  rw [show t + d - c + (E + c - d) = t + E by omega]
  exact h3
theorem FVal.rw {v : FV} {Y : Nat → Int} {neg : Bool} {N D E N' D' E' md : Int} {p : Nat} (h : FVal v Y neg N D E p md) (e1 : N = N') (e2 : D = D') (e3 : E = E') : FVal v Y neg N' D' E' p md := by
  subst e1; subst e2; subst e3; exact h
/-- No power of five: round. -/
theorem PreRnd.round {w wc w' : World} {br zb : Nat} {s : ByteArray} {v : FV} {neg : Bool} {sc : Scan} {ex : EScan} {P : Nat} {v1 : FV} {Z : Nat → Int} (h : PreRnd w br zb s v neg sc ex P wc v1 Z) (h5 : x5of sc ex = 0) (hR : RoundPost wc zb v1 Z false P w') (hP : 1 ≤ P) : FSRes w br zb s v neg sc ex P w' := by
  have hx := h.num.ex
  obtain ⟨g1, g2, g3, g4, g5, g6⟩ := h.num.fin h.fm
  have hv1 : ({ v1 with fm := 1, e := v1.e } : FV) = v1 := by have := h.fm; cases v1; simp_all
  have hS : SERPost wc zb v1 Z v1.e false P w' := ⟨fun hh => by omega, fun hh => by omega, fun _ _ => by rw [hv1]; exact hR⟩
  obtain ⟨v', Y, hA⟩ := ser_all hS ⟨g1, g2, g3, g4, g5, g6⟩ hP
  obtain ⟨sh, s1, s2, s3⟩ := h.vl
  have hng := h.ng
  have hfew := h.few
  refine h.fin hA.new hA.len (fun q1 q2 q3 q4 => ⟨hA.ng.trans hng, ?_⟩)
  have hF := hA.vl (by omega) (by omega) (val Z v1.n) 1 (by decide) (by rw [Int.ediv_one]) (by simp [Int.emod_one]) (fun _ => Int.emod_one _)
  rw [h.ng, h.md, s2] at hF
  have hF2 := FVal.unshift (c := sh) (d := 0) (D := 1) (N := sc.V) (by simpa using hF)
  refine hF2.rw ?_ ?_ (by omega)
  · unfold numOf; rw [h5]; simp
  · unfold denOf; rw [h5]; simp
theorem PreRnd.mul {w wc w' : World} {br zb : Nat} {s : ByteArray} {v : FV} {neg : Bool} {sc : Scan} {ex : EScan} {P : Nat} {v1 : FV} {Z : Nat → Int} (h : PreRnd w br zb s v neg sc ex P wc v1 Z) (h5 : 0 < x5of sc ex) {vp : FV} {B : Int} {Y v' : _} (hM : MulAll wc zb P { v1 with ng := v1.ng != vp.ng } (val Z v1.n) B v1.n vp.n (v1.e + vp.e) w' v' Y)
    (hs : x5of sc ex ≤ 27 → vp.ng = false ∧ vp.n = 1 ∧ ∃ u : Nat, u < 64 ∧ B = 5 ^ (x5of sc ex).toNat * 2 ^ u ∧ vp.e = 64 - (u : Int)) : FSRes w br zb s v neg sc ex P w' := by
  obtain ⟨sh, s1, s2, s3⟩ := h.vl
  have hg := h.ng
  have hfew := h.few
  refine h.fin ⟨hM.new.num, hM.new.p, hM.new.md, hM.new.home, hM.new.chg⟩ hM.len (fun q1 q2 q3 q4 => ?_)
  obtain ⟨hng, n1, u, u1, u2, u3⟩ := hs q2
  have hb : (v1.ng != vp.ng) = neg := by rw [hng, hg]; cases neg <;> rfl
  rw [hb] at hM
  refine ⟨hM.ng, ?_⟩
  have hF := hM.val (by omega) (by omega)
  simp only [h.md, s2, u2] at hF
  have hF2 := FVal.unshift (c := sh + u) (d := 0) (D := 1) (N := sc.V * 5 ^ (x5of sc ex).toNat) (hF.rw (by
    rw [Int.pow_add]
    generalize (2 : Int) ^ sh = A
    generalize (2 : Int) ^ u = C
    rw [Int.mul_assoc sc.V A, Int.mul_left_comm A, ← Int.mul_assoc sc.V]) (by simp) rfl)
  refine hF2.rw rfl ?_ (by rw [n1]; push_cast; omega)
  unfold denOf
  rw [show (-(x5of sc ex)).toNat = 0 by omega]
  simp
theorem PreRnd.quo {w wc w' : World} {br zb : Nat} {s : ByteArray} {v : FV} {neg : Bool} {sc : Scan} {ex : EScan} {P : Nat} {v1 : FV} {Z : Nat → Int} (h : PreRnd w br zb s v neg sc ex P wc v1 Z) (h5 : x5of sc ex < 0) {vp : FV} {B : Int} {Y v' : _} (hM : QuoAll wc zb P { v1 with ng := v1.ng != vp.ng } (val Z v1.n) B v1.n vp.n (v1.e - vp.e) w' v' Y)
    (hs : -27 ≤ x5of sc ex → vp.ng = false ∧ vp.n = 1 ∧ ∃ u : Nat, u < 64 ∧ B = 5 ^ (-(x5of sc ex)).toNat * 2 ^ u ∧ vp.e = 64 - (u : Int)) : FSRes w br zb s v neg sc ex P w' := by
  obtain ⟨sh, s1, s2, s3⟩ := h.vl
  have hg := h.ng
  have hfew := h.few
  refine h.fin ⟨hM.new.num, hM.new.p, hM.new.md, hM.new.home, hM.new.chg⟩ hM.len (fun q1 q2 q3 q4 => ?_)
  obtain ⟨hng, n1, u, u1, u2, u3⟩ := hs q1
  have hb : (v1.ng != vp.ng) = neg := by rw [hng, hg]; cases neg <;> rfl
  rw [hb] at hM
  refine ⟨hM.ng, ?_⟩
  have hF := hM.val (by omega) (by omega)
  simp only [h.md, s2, u2] at hF
  have hF2 := FVal.unshift hF
  refine hF2.rw ?_ rfl (by rw [n1]; push_cast; omega)
  unfold numOf
  rw [show (x5of sc ex).toNat = 0 by omega]
  simp
/-- An infinite power of five. -/
theorem PreRnd.inf {w wc w' : World} {br zb : Nat} {s : ByteArray} {v : FV} {neg : Bool} {sc : Scan} {ex : EScan} {P : Nat} {v1 : FV} {Z : Nat → Int} (h : PreRnd w br zb s v neg sc ex P wc v1 Z) (h5 : x5of sc ex < -27 ∨ 27 < x5of sc ex) {f : Int} {vp : FV} (hf : f = 0 ∨ f = 2) (hn : FNum w' zb { v1 with ng := v1.ng != vp.ng, ac := 0, fm := f } Z) (k : Chg (zRow zb 0 7) wc w') : FSRes w br zb s v neg sc ex P w' := by
  refine h.fin (v' := { v1 with ng := v1.ng != vp.ng, ac := 0, fm := f }) (fnew_of hn rfl rfl rfl rfl k) (fun e => by simp only at e; omega) (fun q1 q2 => by omega)
end Go.Proofs.YtmgfajamanakcaaGreatDoor
namespace Go.Proofs.YtmgfajamanakcaaGreatDoor
set_option linter.unusedSimpArgs false
open Go.RowKit
set_option maxRecDepth 100000
set_option linter.unusedVariables false
set_option maxHeartbeats 1000000 in
theorem errNew_any (t : ByteArray) (w : World) : Calls Tryz.prog 114 #[.string t] w fun e w' => e = .returned (.iface 229 (.pointer (some ⟨w.heap.size, 0, none⟩))) ∧ Chg zNone w w' := by
  go_enter Tryz.func114, Tryz.ntmps114
  go_wp2
  go_ret
  exact ⟨rfl, (Chg.refl _ _).alloc _⟩
/-- A power of five: exact where it is small. -/
def Five (vp : FV) (Y : Nat → Int) (k : Nat) : Prop := k ≤ 27 → vp.fm = 1 ∧ vp.ng = false ∧ vp.n = 1 ∧ ∃ u : Nat, u < 64 ∧ val Y vp.n = 5 ^ k * 2 ^ u ∧ vp.e = 64 - (u : Int)
theorem pow5_full (zb n p : Nat) (v : FV) (X : Nat → Int) (w : World) (h : FNum w zb v X) (hp : v.p = (p : Int)) (hp1 : 64 ≤ p) (hp2 : p ≤ 576) (hn2 : n < 18446744073709551616) (hT : Tab5 w) (hg : ∀ b o, zF zb v b o → 14 ≤ b)
    (hK1 : w.cell? ⟨1, 0, none⟩ = some (.int .i64 40)) (hK5 : w.cell? ⟨5, 0, none⟩ = some (.int .i64 12)) (hK6 : w.cell? ⟨6, 0, none⟩ = some (.int .i64 80)) :
    Calls Tryz.prog 175 #[.pointer (some ⟨zb, 0, none⟩), .int .u64 (n : Int)] w fun e w' => e = .returned (.pointer (some ⟨zb, 0, none⟩)) ∧ ∃ v' Z, FNew w zb v w' v' Z ∧ Big v' p ∧ Five v' Z n := by
  by_cases hn : n ≤ 27
  · refine (pow5_small zb n v X w h (by omega) hn hT).mono ?_
    rintro e w' ⟨rfl, v1, Z1, g1, g2, g3, g4, g5, g6, g7, g8⟩
    exact ⟨rfl, v1, Z1, g1, ⟨g1.p.trans hp, Or.inr ⟨g4, by omega, by omega⟩⟩, fun _ => ⟨g4, g2, g5, _, g8, by rw [g5]; exact g6, g7⟩⟩
  · refine (pow5_large zb n p v X w h hp hp1 hp2 (by omega) hn2 hT hg hK1 hK5 hK6).mono ?_
    rintro e w' ⟨rfl, v1, Z1, g1, g2⟩
    exact ⟨rfl, v1, Z1, g1, g2, fun hh => absurd hh hn⟩
theorem quo_step {w wc : World} {br zb : Nat} {s : ByteArray} {v : FV} {neg : Bool} {sc : Scan} {ex : EScan} {P : Nat} {v1 : FV} {Z : Nat → Int} (h : PreRnd w br zb s v neg sc ex P wc v1 Z) (k : Nat) (h5 : -(x5of sc ex) = (k : Int)) (hk : 0 < k)
    (pb pp : Nat) (vp : FV) (Y : Nat → Int) (hp : FNum wc pb vp Y) (hb : Big vp pp) (hpp : pp ≤ 576) (hs : Five vp Y k) (hsep : ∀ b o, zF zb v1 b o → ¬ zF pb vp b o) (hK : wc.cell? ⟨4, 0, none⟩ = some (.int .i64 40)) (hz : 14 ≤ zb) :
    Calls Tryz.prog 89 #[.pointer (some ⟨zb, 0, none⟩), .pointer (some ⟨zb, 0, none⟩), .pointer (some ⟨pb, 0, none⟩)] wc fun e w' => e = .returned (.pointer (some ⟨zb, 0, none⟩)) ∧ FSRes w br zb s v neg sc ex P w' := by
  obtain ⟨b1, b2⟩ := hb
  have hne : zb ≠ pb := fun e => hsep zb 0 (Or.inl ⟨rfl, by omega, by omega⟩) (Or.inl ⟨e, by omega, by omega⟩)
  have hkn : (-(x5of sc ex)).toNat = k := by omega
  rcases b2 with b2 | ⟨b2, b3, b4⟩
  · refine (Quo_inf zb pb P v1 vp Z Y wc h.num hp h.fm b2 h.p hne hsep).mono ?_
    rintro e w' ⟨rfl, g1, g2⟩
    refine ⟨rfl, h.inf (Or.inl ?_) (Or.inl rfl) g1 g2⟩
    rcases Nat.lt_or_ge 27 k with h1 | h1
    · omega
    · have := (hs h1).1; omega
  · have hf := h.few
    refine (Quo_fin zb pb P v1 vp Z Y wc h.num hp h.fm b2 h.p hne hsep (by omega) (by omega) hK (by omega)).mono ?_
    rintro e w' ⟨rfl, v', Z', g⟩
    refine ⟨rfl, h.quo (by omega) g (fun q => ?_)⟩
    obtain ⟨_, q1, q2, u, q3, q4, q5⟩ := hs (by omega)
    rw [hkn]
    exact ⟨q1, q2, u, q3, q4, q5⟩
theorem mul_step {w wc : World} {br zb : Nat} {s : ByteArray} {v : FV} {neg : Bool} {sc : Scan} {ex : EScan} {P : Nat} {v1 : FV} {Z : Nat → Int} (h : PreRnd w br zb s v neg sc ex P wc v1 Z) (k : Nat) (h5 : x5of sc ex = (k : Int)) (hk : 0 < k)
    (pb pp : Nat) (vp : FV) (Y : Nat → Int) (hp : FNum wc pb vp Y) (hb : Big vp pp) (hpp : pp ≤ 576) (hs : Five vp Y k) (hsep : ∀ b o, zF zb v1 b o → ¬ zF pb vp b o) (hK : wc.cell? ⟨1, 0, none⟩ = some (.int .i64 40)) (hz : 14 ≤ zb) :
    Calls Tryz.prog 176 #[.pointer (some ⟨zb, 0, none⟩), .pointer (some ⟨zb, 0, none⟩), .pointer (some ⟨pb, 0, none⟩)] wc fun e w' => e = .returned (.pointer (some ⟨zb, 0, none⟩)) ∧ FSRes w br zb s v neg sc ex P w' := by
  obtain ⟨b1, b2⟩ := hb
  have hne : zb ≠ pb := fun e => hsep zb 0 (Or.inl ⟨rfl, by omega, by omega⟩) (Or.inl ⟨e, by omega, by omega⟩)
  have hkn : (x5of sc ex).toNat = k := by omega
  rcases b2 with b2 | ⟨b2, b3, b4⟩
  · refine (Mul_inf12 zb pb P v1 vp Z Y wc h.num hp h.fm b2 h.p hne hsep).mono ?_
    rintro e w' ⟨rfl, g1, g2⟩
    refine ⟨rfl, h.inf (Or.inr ?_) (Or.inr rfl) g1 g2⟩
    rcases Nat.lt_or_ge 27 k with h1 | h1
    · omega
    · have := (hs h1).1; omega
  · have hf := h.few
    refine (Mul_fin zb pb P v1 vp Z Y wc h.num hp h.fm b2 h.p hne hsep (by omega) (by omega) hK (by omega)).mono ?_
    rintro e w' ⟨rfl, v', Z', g⟩
    refine ⟨rfl, h.mul (by omega) g (fun q => ?_)⟩
    obtain ⟨_, q1, q2, u, q3, q4, q5⟩ := hs (by omega)
    rw [hkn]
    exact ⟨q1, q2, u, q3, q4, q5⟩
/-- A new Float beside the one that is scanned, with five's power in it. -/
theorem PreRnd.five {w wc wd we : World} {br zb : Nat} {s : ByteArray} {v : FV} {neg : Bool} {sc : Scan} {ex : EScan} {P : Nat} {v1 : FV} {Z : Nat → Int} (h : PreRnd w br zb s v neg sc ex P wc v1 Z) {v0 vp : FV} {Y : Nat → Int} (k : Chg zNone wc wd) (h0 : v0.a = none) (hn : FNew wd wc.heap.size v0 we vp Y) :
    Chg zNone wc we ∧ ∀ b o, zF zb v1 b o → ¬ zF wc.heap.size vp b o := by
  have hz0 : ∀ b o, zF wc.heap.size v0 b o → wc.heap.size ≤ b := by
    rintro b o (hh | ⟨po, e, _⟩)
    · rw [hh.1]; exact Nat.le_refl _
    · rw [h0] at e; cases e
  have hzp : ∀ b o, zF wc.heap.size vp b o → wc.heap.size ≤ b := by
    rintro b o (hh | ⟨po, e, _⟩)
    · rw [hh.1]; exact Nat.le_refl _
    · rcases hn.home with ⟨e1, _⟩ | ⟨b2, o2, e1, hb⟩
      · rw [e1, h0] at e; cases e
      · rw [e1] at e; injection e with e; injection e with e3 _
        have := k.size
        omega
  have hz1 := zF_lt h.num
  refine ⟨k.trans hn.chg (fun b o hb hz => by have := hz0 b o hz; omega), fun b o q1 q2 => by have := hz1 b o q1; have := hzp b o q2; omega⟩
end Go.Proofs.YtmgfajamanakcaaGreatDoor
