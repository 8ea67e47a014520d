/-
  What Float.scan computes, in plain Lean: the exponents, sizes. No walk in sight. Conditions: bases 0, 2, 8, 10, 16.
  An Int in memory (sign, words); (*Int).scan walked. Conditions: as scan_any's; the Int's words nil.
  (*Int).SetString and zzIndex, walked. Conditions: a text below 2^20 bytes, the Int's words nil.
  (*Rat).SetString on a text that is no number, walked. Conditions: a text below 2^20 bytes, the Rat new.
-/
import Derived.Test.YtmgfajamanakcaaGreatDoorQ06
import Derived.Test.YtmgfajamanakcaaGreatDoorQ42
import Derived.Test.YtmgfajamanakcaaGreatDoorQ38
import Derived.Lib.ParseIntBTie
import Derived.Test.YtmgfajamanakcaaGreatDoorQ07
import Derived.Outline
namespace Go.Proofs.YtmgfajamanakcaaGreatDoor
set_option linter.unusedSimpArgs false
open Go.RowKit
set_option maxRecDepth 100000
set_option linter.unusedVariables false
theorem runF_run {b0 : Bool} {b : Int} {s : ByteArray} (hb : 2 ≤ b) : ∀ (k p : Nat) (st : SS), k ≤ s.size - p → RunOK b s p st → RunOK b s (runF b0 b s k p st).1 (runF b0 b s k p st).2
  | 0, p, st, _, h => h
  | k + 1, p, st, hk, h => by
    unfold runF
    cases e : stepS b0 b st (byteAt s p) with
    | none => exact h
    | some st' => exact runF_run hb k (p + 1) st' (by omega) (h.step hb (by omega) e)
theorem lastS_run {base : Int} {frac : Bool} {s : ByteArray} {p : Nat} (hp : p ≤ s.size) (hbase : base = 0 ∨ base = 2 ∨ base = 8 ∨ base = 10 ∨ base = 16) : RunOK (preS base frac s p).b s (lastS base frac s p).1 (lastS base frac s p).2 := by
  have hb := preS_b (frac := frac) (s := s) (p := p) hbase
  exact runF_run (by omega) _ _ _ (Nat.le_refl _) (preS_run hp hbase)
/-- The scanned number's size, its places behind the point, its base. -/
theorem scanS_size {base : Int} {s : ByteArray} {p : Nat} (hp : p ≤ s.size) (hbase : base = 0 ∨ base = 2 ∨ base = 8 ∨ base = 10 ∨ base = 16) :
    0 ≤ (scanS base true s p).V ∧ (scanS base true s p).V < 16 ^ s.size ∧ -(s.size : Int) - 1 ≤ (scanS base true s p).cnt ∧ (scanS base true s p).cnt ≤ s.size + 1 ∧ ((scanS base true s p).b = 2 ∨ (scanS base true s p).b = 8 ∨ (scanS base true s p).b = 10 ∨ (scanS base true s p).b = 16) := by
  have hb := preS_b (frac := true) (s := s) (p := p) hbase
  obtain ⟨h1, h2, h3, h4, h5⟩ := lastS_run (frac := true) hp hbase
  have hpow : ∀ (b : Int) (c : Nat), 2 ≤ b → b ≤ 16 → c ≤ s.size → b ^ c ≤ 16 ^ s.size := by
    intro b c g1 g2 g3
    have e1 : b ^ c ≤ 16 ^ c := by
      clear g3
      induction c with
      | zero => simp
      | succ c ih =>
        rw [Int.pow_succ, Int.pow_succ]
        exact Int.mul_le_mul ih g2 (by omega) (Int.pow_nonneg (by omega))
    exact Int.le_trans e1 (ipow_le (by omega) g3)
  have h6 := hpow (preS base true s p).b (lastS base true s p).2.cnt (by omega) (by omega) (by omega)
  have h7 : (0 : Int) < 16 ^ s.size := Int.pow_pos (by omega)
  unfold scanS
  generalize lastS base true s p = L at *
  obtain ⟨q, st⟩ := L
  simp only at *
  split
  · simp only
    exact ⟨Int.le_refl _, h7, by omega, by omega, by simp⟩
  · simp only
    refine ⟨h3, by omega, ?_, ?_, hb⟩
    · split <;> omega
    · split <;> omega
theorem endE_b {b : Int} {q : Nat} {st : ES} : (endE b q st).b = b ∧ -9223372036854775808 ≤ (endE b q st).v ∧ (endE b q st).v < 9223372036854775808 := by
  unfold endE
  split
  · exact ⟨rfl, by simp only; omega, by simp only; omega⟩
  · split
    · rename_i v h
      have := Lib.parseIntB_bounds h
      refine ⟨rfl, ?_, ?_⟩
      · simp only; omega
      · simp only; omega
    · exact ⟨rfl, by simp only; omega, by simp only; omega⟩
theorem scanE_b {sep : Bool} {s : ByteArray} {p : Nat} : ((scanE sep s p).b = 2 ∨ (scanE sep s p).b = 10) ∧ -9223372036854775808 ≤ (scanE sep s p).v ∧ (scanE sep s p).v < 9223372036854775808 := by
  unfold scanE
  split
  · cases hb : expBase (byteAt s p) with
    | none => exact ⟨Or.inr rfl, by simp only; omega, by simp only; omega⟩
    | some b =>
      have h := endE_b (b := b) (q := (runX sep s (expSign s (p + 1)).1 ⟨46, false, false, (expSign s (p + 1)).2⟩).1) (st := (runX sep s (expSign s (p + 1)).1 ⟨46, false, false, (expSign s (p + 1)).2⟩).2)
      simp only
      rw [h.1]
      refine ⟨?_, h.2⟩
      unfold expBase at hb
      split at hb
      · injection hb with hb; omega
      · split at hb
        · injection hb with hb; omega
        · cases hb
  · exact ⟨Or.inr rfl, by simp only; omega, by simp only; omega⟩
/-- The bits of a figure of base b. -/
def digBits (b : Int) : Int := if b = 8 then 3 else if b = 16 then 4 else 1
/-- The power of two beside the words, and the power of five. -/
def x2of (sc : Scan) (ex : EScan) : Int := (if sc.cnt < 0 then sc.cnt * digBits sc.b else 0) + ex.v
def x5of (sc : Scan) (ex : EScan) : Int := (if sc.cnt < 0 ∧ sc.b = 10 then sc.cnt else 0) + (if ex.b = 10 then ex.v else 0)
theorem settle (k v : Int) (h1 : -1099511627776 ≤ k) (h2 : k ≤ 1099511627776) (h3 : -9223372036854775808 ≤ v) (h4 : v < 9223372036854775808) :
    ((-2147483648 ≤ IntKind.i64.wrap (k + v) ∧ IntKind.i64.wrap (k + v) ≤ 2147483647) ↔ (-2147483648 ≤ k + v ∧ k + v ≤ 2147483647)) ∧ ((-2147483648 ≤ k + v ∧ k + v ≤ 2147483647) → IntKind.i64.wrap (k + v) = k + v) := by
  rw [IntKind.wrap_i64]
  omega
end Go.Proofs.YtmgfajamanakcaaGreatDoor
namespace Go.Proofs.YtmgfajamanakcaaGreatDoor
set_option linter.unusedSimpArgs false
open Go.RowKit
set_option maxRecDepth 100000
set_option linter.unusedVariables false
theorem eof_neq (a : Addr) (w : World) : (binOp .neq 110 (.iface 229 (.pointer (some a))) (.iface 229 (.pointer (some a)))).run Tryz.prog w = .ok (.bool false) w := by
  obtain ⟨i, hi⟩ := Option.isSome_iff_exists.1 info231
  have h := info229
  cases hj : Tryz.prog.info? 229 with
  | none => rw [hj] at h; cases h
  | some j =>
    rw [hj] at h
    have key := run_equalIn_iface_ptr_same (P := Tryz.prog) w 9998 a Tryz.underlying110 Tryz.underlying229 hj (by simpa using h) hi
    simp only [binOp]
    simp [Op.equal, Op.maxDepth, key]
theorem nil_neq (a : Addr) (w : World) : (binOp .neq 110 .nilIface (.iface 229 (.pointer (some a)))).run Tryz.prog w = .ok (.bool true) w := by
  have h : ∀ d : Nat, (Op.equalIn (d + 1) 110 .nilIface (.iface 229 (.pointer (some a)))).run Tryz.prog w = .ok false w := fun d => by simp [Op.equalIn, run_underlying Tryz.underlying110]
  simp only [binOp]
  simp [Op.equal, Op.maxDepth, h 9999]
theorem Got.base {w0 w1 w : World} {a : Option Addr} {n c : Nat} {V : Int} (h : Got w1 w a n c V) (hw : w0.heap.size ≤ w1.heap.size) : Got w0 w a n c V := by
  obtain ⟨h1, h2, h3, h4, h5⟩ := h
  refine ⟨h1, h2, h3, ?_, h5⟩
  rcases h4 with h4 | ⟨b, o, e, hb⟩
  · exact Or.inl h4
  · exact Or.inr ⟨b, o, e, by omega⟩
/-- The zone of a reader and of an Int. -/
def zIS (br zb zo : Nat) : Zone := zOr (zRow br 1 2) (zRow zb zo 2)
theorem Chg.sign {w w' : World} {br zb zo : Nat} (h : Chg (zIS br zb zo) w w') (v : Value) : Chg (zIS br zb zo) w (w'.setCell ⟨zb, zo, none⟩ v) := h.setCell zb zo v (fun _ => Or.inr ⟨rfl, by omega, by omega⟩)
theorem Chg.abs {w w' : World} {br zb zo : Nat} (h : Chg (zIS br zb zo) w w') (v : Value) : Chg (zIS br zb zo) w (w'.setCell ⟨zb, zo + 1, none⟩ v) := h.setCell zb (zo + 1) v (fun _ => Or.inr ⟨rfl, by omega, by omega⟩)
theorem Got.cell {w0 w : World} {a : Option Addr} {n c : Nat} {V : Int} (h : Got w0 w a n c V) (b o : Nat) (v : Value) (hb : b < w0.heap.size) : Got w0 (w.setCell ⟨b, o, none⟩ v) a n c V :=
  h.chg (chg_cell w b o v) (fun b' o' hz hh => by
    have := h.2.2.2.1.zone (c := c) b' o' (by rw [hh.1]; exact hb)
    exact this hz)
def IntOk (w : World) (br : Nat) (s : ByteArray) (zb zo : Nat) (neg : Bool) (sc : Scan) (e : Ending) (w' : World) : Prop :=
  e = .returned (.tuple #[.pointer (some ⟨zb, zo, none⟩), .int .i64 sc.b, .nilIface]) ∧ (∃ a n c, IntC w' zb zo (decide (0 < n) && neg) a n c ∧ Got w w' a n c sc.V) ∧ RdAt w' br s sc.p ∧ Chg (zIS br zb zo) w w'
def IntBad (w : World) (br zb zo : Nat) (e : Ending) (w' : World) : Prop :=
  ∃ b t v, e = .returned (.tuple #[.pointer none, .int .i64 b, .iface t v]) ∧ Chg (zIS br zb zo) w w'
theorem signAt_le {s : ByteArray} {p : Nat} (hp : p < s.size) : (signAt s p).2 ≤ s.size := by
  unfold signAt
  split
  · simp only; omega
  · split <;> (simp only; omega)
set_option maxHeartbeats 4000000 in
theorem IntScan_more (br : Nat) (s : ByteArray) (p : Nat) (base : Int) (zb zo : Nat) (neg0 : Bool) (aE a1 a2 : Addr) (w : World) (h : RdAt w br s p) (hs : s.size < 1048576) (hp : p < s.size) (hbr : br ≠ 0) (hne : zb ≠ br)
    (hE : Errs w (.iface 229 (.pointer (some aE))) (.iface 229 (.pointer (some a1))) (.iface 229 (.pointer (some a2)))) (hz : IntC w zb zo neg0 none 0 0) (hbase : base = 0 ∨ base = 2 ∨ base = 8 ∨ base = 10 ∨ base = 16) :
    Calls Tryz.prog 228 #[.pointer (some ⟨zb, zo, none⟩), .iface 169 (.pointer (some ⟨br, 0, none⟩)), .int .i64 base] w fun e w' =>
      ((scanS base false s (signAt s p).2).err = 0 ∧ IntOk w br s zb zo (signAt s p).1 (scanS base false s (signAt s p).2) e w') ∨ ((scanS base false s (signAt s p).2).err ≠ 0 ∧ IntBad w br zb zo e w') := by
  have HC := Lib.hid (scanSign_more br s p w h hp (by omega))
  have hq := signAt_le hp
  obtain ⟨sg, hsg⟩ : ∃ x, signAt s p = x := ⟨_, rfl⟩
  rw [hsg] at hq HC ⊢
  obtain ⟨neg, q⟩ := sg
  simp only at hq HC ⊢
  obtain ⟨sc, hsc⟩ : ∃ x, scanS base false s q = x := ⟨_, rfl⟩
  rw [hsc]
  have Hsc := Lib.hid hsc
  have H := Lib.hid (And.intro h (And.intro hE hz))
  have hlt := hz.lt
  clear h hE hz hsc hsg
  go_enter Tryz.func228, Tryz.ntmps228
  go_wp2_with fail
  refine HC.out.mono ?_
  rintro e w1 ⟨rfl, h1, h2⟩
  have HZ1 := Lib.hid (H.out.2.2.chg h2 (fun o _ hh => hne hh.1))
  have HS := Lib.hid (scan_any br s q base false aE _ _ w1 h1 hs hq hbr (H.out.2.1.chg h2 (fun _ => zrow_zero)) hbase)
  have H1 := Lib.hid h2
  clear h1 h2
  rw [Hsc.out] at HS
  obtain ⟨hz1, hz2, hz3, hz4⟩ := HZ1.out
  go_wp2_with fail
  refine HS.out.mono ?_
  rintro e w2 ⟨a, n, c, rfl, h1, h2, h3⟩
  clear hz1 hz2 hz3 hz4
  have HZ2 := Lib.hid (HZ1.out.chg h3 (fun o _ hh => hne hh.1))
  have HG := Lib.hid (h1.base H1.out.size)
  have HR := Lib.hid h2
  have HK : Hid (Chg (zIS br zb zo) w w2) := (H1.out.trans h3 (fun _ _ _ h => h)).mono (fun _ _ _ h => Or.inl h)
  clear h1 h2 h3
  obtain ⟨hz1, hz2, hz3, hz4⟩ := HZ2.out
  obtain ⟨hz5, hz6, hz7, hz8⟩ := HZ2.out.abs (a' := a) (n' := n) (c' := c)
  by_cases h0 : sc.err = 0
  · rw [if_pos h0]
    by_cases hn : n = 0
    · subst hn
      have hgt : decide ((0 : Int) < ((0 : Nat) : Int)) = false := by simp
      go_wp2
      go_ret3
      refine Or.inl ⟨h0, rfl, ⟨a, 0, c, ?_, ?_⟩, ?_, ?_⟩
      · exact HZ2.out.abs.sign
      · exact (HG.out.cell _ _ _ hlt).cell _ _ _ hlt
      · exact (HR.out.chg (chg_cell _ _ _ _) (fun o _ hh => hne hh.1.symm)).chg (chg_cell _ _ _ _) (fun o _ hh => hne hh.1.symm)
      · exact (HK.out.abs _).sign _
    · have hgt : decide ((0 : Int) < (n : Int)) = true := by simp; omega
      have hd : decide (0 < n) = true := by simp; omega
      go_wp2
      go_ret3
      refine Or.inl ⟨h0, rfl, ⟨a, n, c, ?_, ?_⟩, ?_, ?_⟩
      · rw [hd]; exact HZ2.out.abs.sign
      · exact (HG.out.cell _ _ _ hlt).cell _ _ _ hlt
      · exact (HR.out.chg (chg_cell _ _ _ _) (fun o _ hh => hne hh.1.symm)).chg (chg_cell _ _ _ _) (fun o _ hh => hne hh.1.symm)
      · exact (HK.out.abs _).sign _
  · rw [if_neg h0]
    by_cases h1 : sc.err = 1
    · rw [if_pos h1]
      go_wp2
      go_ret3
      exact Or.inr ⟨h0, _, _, _, rfl, HK.out.abs _⟩
    · rw [if_neg h1]
      go_wp2
      go_ret3
      exact Or.inr ⟨h0, _, _, _, rfl, HK.out.abs _⟩
set_option maxHeartbeats 2000000 in
theorem IntScan_end (br : Nat) (s : ByteArray) (p : Nat) (base : Int) (zb zo : Nat) (aE : Addr) (w : World) (h : RdAt w br s p) (hs : s.size < 1048576) (hp : s.size ≤ p) (hp2 : p < 1048577) (hbr : br ≠ 0)
    (hE : w.cell? ⟨0, 0, none⟩ = some (.iface 229 (.pointer (some aE)))) :
    Calls Tryz.prog 228 #[.pointer (some ⟨zb, zo, none⟩), .iface 169 (.pointer (some ⟨br, 0, none⟩)), .int .i64 base] w (IntBad w br zb zo) := by
  have HC := Lib.hid (scanSign_end br s p 229 (.pointer (some aE)) w h hp (by omega) hbr hE)
  clear h hE
  go_enter Tryz.func228, Tryz.ntmps228
  go_wp2_with fail
  refine HC.out.mono ?_
  rintro e w1 ⟨rfl, h1, h2⟩
  have H1 := Lib.hid h2
  clear h1 h2
  go_wp2
  go_ret3
  exact ⟨_, _, _, rfl, H1.out.mono (fun _ _ _ h => Or.inl h)⟩
/-- (*Int).setFromScanner: all bytes are scanned, or it fails. -/
def SetOk (w : World) (br : Nat) (s : ByteArray) (zb zo : Nat) (neg : Bool) (sc : Scan) (e : Ending) (w' : World) : Prop :=
  e = .returned (.tuple #[.pointer (some ⟨zb, zo, none⟩), .bool true]) ∧ (∃ a n c, IntC w' zb zo (decide (0 < n) && neg) a n c ∧ Got w w' a n c sc.V) ∧ Chg (zIS br zb zo) w w'
def SetBad (w : World) (br zb zo : Nat) (e : Ending) (w' : World) : Prop := e = .returned (.tuple #[.pointer none, .bool false]) ∧ Chg (zIS br zb zo) w w'
def intOk (s : ByteArray) (p : Nat) (base : Int) : Prop := p < s.size ∧ (scanS base false s (signAt s p).2).err = 0 ∧ (scanS base false s (signAt s p).2).p = s.size
set_option maxHeartbeats 4000000 in
theorem setFromScanner_any (br : Nat) (s : ByteArray) (p : Nat) (base : Int) (zb zo : Nat) (neg0 : Bool) (aE a1 a2 : Addr) (w : World) (h : RdAt w br s p) (hs : s.size < 1048576) (hp : p ≤ s.size) (hbr : br ≠ 0) (hzb : zb ≠ 0) (hne : zb ≠ br)
    (hE : Errs w (.iface 229 (.pointer (some aE))) (.iface 229 (.pointer (some a1))) (.iface 229 (.pointer (some a2)))) (hz : IntC w zb zo neg0 none 0 0) (hbase : base = 0 ∨ base = 2 ∨ base = 8 ∨ base = 10 ∨ base = 16) :
    Calls Tryz.prog 181 #[.pointer (some ⟨zb, zo, none⟩), .iface 169 (.pointer (some ⟨br, 0, none⟩)), .int .i64 base] w fun e w' =>
      (intOk s p base ∧ SetOk w br s zb zo (signAt s p).1 (scanS base false s (signAt s p).2) e w') ∨ (¬ intOk s p base ∧ SetBad w br zb zo e w') := by
  have hee := eof_neq aE
  have hnn := nil_neq aE
  have hr := method_read
  by_cases hq : p < s.size
  · have HC := Lib.hid (IntScan_more br s p base zb zo neg0 aE a1 a2 w h hs hq hbr hne hE hz hbase)
    have HE := Lib.hid hE
    have Hpo := Lib.hid (show (scanS base false s (signAt s p).2).p ≤ s.size from (scanS_ok (signAt_le hq) (by omega)).2.1)
    have hlt := hz.lt
    clear h hE hz
    go_enter Tryz.func181, Tryz.ntmps181
    go_wp2_with fail
    refine HC.out.mono ?_
    rintro e w1 (⟨he, rfl, h2, h3, h4⟩ | ⟨he, b, t, v, rfl, h4⟩)
    · have hz0 : ∀ b, ¬ zIS br zb zo b 0 ∨ True := fun _ => Or.inr trivial
      have he0 : w1.cell? ⟨0, 0, none⟩ = some (.iface 229 (.pointer (some aE))) := h4.cell HE.out.eof (fun hh => by
        rcases hh with hh | hh
        · exact zrow_zero hh
        · exact hzb hh.1.symm)
      have HI := Lib.hid h2
      have HK := Lib.hid h4
      have HRd := Lib.hid h3
      have HR := Lib.hid (read_head br s _ _ w1 h3 (by omega) Hpo.out hbr he0)
      clear h2 h3 h4 hz0
      go_wp2_with fail
      refine HR.out.mono ?_
      rintro e w2 ⟨more, c, rfl, h1, h2⟩
      have he2 : w2.cell? ⟨0, 0, none⟩ = some (.iface 229 (.pointer (some aE))) := h2.cell he0 zrow_zero
      have HK2 : Hid (Chg (zIS br zb zo) w w2) := HK.out.trans h2 (fun _ _ _ h => Or.inl h)
      have HI2 : Hid (∃ a n c, IntC w2 zb zo (decide (0 < n) && (signAt s p).1) a n c ∧ Got w w2 a n c (scanS base false s (signAt s p).2).V) := by
        obtain ⟨a, n, c, g1, g2⟩ := HI.out
        exact ⟨a, n, c, g1.chg h2 (fun o _ hh => hne hh.1), g2.chg h2 (fun b o hz => rd_apart' HRd.out g2.2.2.1 b o hz)⟩
      have Hm := Lib.hid h1.2.1
      clear h1 h2 he0
      cases more with
      | true =>
        rw [errOf_true]
        have hno : ¬ intOk s p base := fun hh => by have := Hm.out.1 rfl; have := hh.2.2; omega
        go_wp2
        go_ret2
        exact Or.inr ⟨hno, rfl, HK2.out⟩
      | false =>
        rw [errOf_false]
        have hyes : intOk s p base := ⟨hq, he, by
          have h1 := Hpo.out
          rcases Nat.lt_or_ge (scanS base false s (signAt s p).2).p s.size with h2 | h2
          · have := Hm.out.2 h2; cases this
          · omega⟩
        go_wp2
        go_ret2
        exact Or.inl ⟨hyes, rfl, HI2.out, HK2.out⟩
    · have HK := Lib.hid h4
      clear h4
      go_wp2
      go_ret2
      exact Or.inr ⟨fun hh => he hh.2.1, rfl, HK.out⟩
  · have HC := Lib.hid (IntScan_end br s p base zb zo aE w h hs (by omega) (by omega) hbr hE.eof)
    clear h hE hz
    go_enter Tryz.func181, Tryz.ntmps181
    go_wp2_with fail
    refine HC.out.mono ?_
    rintro e w1 ⟨b, t, v, rfl, h4⟩
    have HK := Lib.hid h4
    clear h4
    go_wp2
    go_ret2
    exact Or.inr ⟨fun hh => hq hh.1, rfl, HK.out⟩
end Go.Proofs.YtmgfajamanakcaaGreatDoor
namespace Go.Proofs.YtmgfajamanakcaaGreatDoor
set_option linter.unusedSimpArgs false
open Go.RowKit
set_option maxRecDepth 100000
set_option linter.unusedVariables false
def StrOk (w : World) (s : ByteArray) (zb zo : Nat) (neg : Bool) (sc : Scan) (e : Ending) (w' : World) : Prop :=
  e = .returned (.tuple #[.pointer (some ⟨zb, zo, none⟩), .bool true]) ∧ (∃ a n c, IntC w' zb zo (decide (0 < n) && neg) a n c ∧ Got w w' a n c sc.V) ∧ Chg (zRow zb zo 2) w w'
def StrBad (w : World) (zb zo : Nat) (e : Ending) (w' : World) : Prop := e = .returned (.tuple #[.pointer none, .bool false]) ∧ Chg (zRow zb zo 2) w w'
theorem zis_old {w : World} {zb zo : Nat} : ∀ b o, b < w.heap.size → zIS w.heap.size zb zo b o → zRow zb zo 2 b o := fun b o hb hh => by
  rcases hh with hh | hh
  · have := hh.1; omega
  · exact hh
set_option maxHeartbeats 2000000 in
theorem SetString_any (s : ByteArray) (base : Int) (zb zo : Nat) (neg0 : Bool) (aE a1 a2 : Addr) (w : World) (hs : s.size < 1048576) (hzb : zb ≠ 0)
    (hE : Errs w (.iface 229 (.pointer (some aE))) (.iface 229 (.pointer (some a1))) (.iface 229 (.pointer (some a2)))) (hz : IntC w zb zo neg0 none 0 0) (hbase : base = 0 ∨ base = 2 ∨ base = 8 ∨ base = 10 ∨ base = 16) :
    Calls Tryz.prog 125 #[.pointer (some ⟨zb, zo, none⟩), .string s, .int .i64 base] w fun e w' =>
      (intOk s 0 base ∧ StrOk w s zb zo (signAt s 0).1 (scanS base false s (signAt s 0).2) e w') ∨ (¬ intOk s 0 base ∧ StrBad w zb zo e w') := by
  have hlt := hz.lt
  have kal : Chg zNone w (w.alloc (.cells #[.string s, .int .i64 0, .int .i64 (-1)] 225)) := (Chg.refl _ _).alloc _
  have HC := Lib.hid (setFromScanner_any w.heap.size s 0 base zb zo neg0 aE a1 a2 _ (rd_new s w) hs (by omega) (by omega) hzb (by omega) (hE.chg kal (fun _ h => h)) (hz.chg kal (fun _ _ h => h)) hbase)
  have HN := Lib.hid (NewReader_any s w)
  have HK := Lib.hid kal
  clear kal hE hz
  go_enter Tryz.func125, Tryz.ntmps125
  go_wp2_with fail
  refine HN.out.mono ?_
  rintro e w1 ⟨rfl, rfl⟩
  go_wp2_with fail
  refine HC.out.mono ?_
  rintro e w2 (⟨h0, rfl, ⟨a, n, c, h1, h2⟩, h3⟩ | ⟨h0, rfl, h3⟩)
  · have HH := Lib.hid (And.intro h1 (And.intro h2 h3))
    clear h1 h2 h3
    go_wp2
    go_ret2
    exact Or.inl ⟨h0, rfl, ⟨a, n, c, HH.out.1, HH.out.2.1.base HK.out.size⟩, (HK.out.mono (fun _ _ _ h => h.elim)).trans HH.out.2.2 zis_old⟩
  · have HH := Lib.hid h3
    clear h3
    go_wp2
    go_ret2
    exact Or.inr ⟨h0, rfl, (HK.out.mono (fun _ _ _ h => h.elim)).trans HH.out zis_old⟩
/-- The first place of a stroke, from p on. -/
def strokeF (s : ByteArray) : Nat → Nat → Option Nat
  | 0, _ => none
  | k + 1, p => if byteAt s p = 47 then some p else strokeF s k (p + 1)
def stroke (s : ByteArray) : Option Nat := strokeF s s.size 0
theorem strokeF_some {s : ByteArray} : ∀ (k p i : Nat), strokeF s k p = some i → p ≤ i ∧ i < p + k ∧ byteAt s i = 47
  | 0, _, _, h => by cases h
  | k + 1, p, i, h => by
    unfold strokeF at h
    split at h
    · rename_i h1
      injection h with h
      subst h
      exact ⟨by omega, by omega, h1⟩
    · have := strokeF_some k (p + 1) i h
      exact ⟨by omega, by omega, this.2.2⟩
theorem strokeF_none {s : ByteArray} : ∀ (k p : Nat), strokeF s k p = none → ∀ i, p ≤ i → i < p + k → byteAt s i ≠ 47
  | 0, _, _, i, h1, h2 => by omega
  | k + 1, p, h, i, h1, h2 => by
    unfold strokeF at h
    split at h
    · cases h
    · rename_i h3
      rcases Nat.eq_or_lt_of_le h1 with e | hl
      · subst e; exact h3
      · exact strokeF_none k (p + 1) h i hl (by omega)
def zzAt (s : ByteArray) : Int := match stroke s with
  | some i => i
  | none => -1
theorem strokeF_cut {s : ByteArray} : ∀ (i k p : Nat), (∀ j, p ≤ j → j < p + i → byteAt s j ≠ 47) → i ≤ k → strokeF s k p = strokeF s (k - i) (p + i)
  | 0, k, p, _, _ => by simp
  | i + 1, k, p, h, hk => by
    obtain ⟨k', rfl⟩ : ∃ k', k = k' + 1 := ⟨k - 1, by omega⟩
    have h0 : strokeF s (k' + 1) p = strokeF s k' (p + 1) := by
      rw [strokeF, if_neg (h p (Nat.le_refl _) (by omega))]
    rw [h0, strokeF_cut i k' (p + 1) (fun j h1 h2 => h j (by omega) (by omega)) (by omega)]
    rw [show k' + 1 - (i + 1) = k' - i by omega, show p + 1 + i = p + (i + 1) by omega]
theorem ext1 (s : ByteArray) (i : Nat) (hi : i < s.size) : (s.extract i (i + 1)).toList = [s.data.toList.getD i 0] := by
  have h : i < s.data.toList.length := by simpa using hi
  rw [ByteArray.toList_eq]
  simp only [ByteArray.data_extract, Array.toList_extract, List.extract_eq_take_drop]
  rw [show i + 1 - i = 1 by omega, List.drop_eq_getElem_cons h]
  simp [List.getD_eq_getElem?_getD, List.getElem?_eq_getElem h]
theorem ext1_eq (s : ByteArray) (i : Nat) (hi : i < s.size) (h : byteAt s i = 47) : ((s.extract i (i + 1)).toList == [47]) = true := by
  rw [ext1 s i hi]
  have : s.data.toList.getD i 0 = 47 := by
    unfold byteAt at h
    apply UInt8.toNat_inj.1
    show _ = 47
    omega
  rw [this]
  rfl
theorem ext1_ne (s : ByteArray) (i : Nat) (hi : i < s.size) (h : byteAt s i ≠ 47) : ((s.extract i (i + 1)).toList == [47]) = false := by
  rw [ext1 s i hi]
  have : s.data.toList.getD i 0 ≠ 47 := fun e => h (by unfold byteAt; rw [e]; rfl)
  simp only [List.cons_beq_cons, beq_eq_false_iff_ne, Bool.and_eq_false_iff]
  exact Or.inl this
theorem zzAt_some {s : ByteArray} {i : Nat} (hi : i < s.size) (hno : ∀ j, j < i → byteAt s j ≠ 47) (hc : byteAt s i = 47) : zzAt s = (i : Int) := by
  have h : stroke s = some i := by
    unfold stroke
    rw [strokeF_cut i s.size 0 (fun j _ h => hno j (by omega)) (by omega)]
    obtain ⟨k, hk⟩ : ∃ k, s.size - i = k + 1 := ⟨s.size - i - 1, by omega⟩
    rw [hk, Nat.zero_add, strokeF, if_pos hc]
  unfold zzAt
  rw [h]
theorem zzAt_none {s : ByteArray} (hno : ∀ j, j < s.size → byteAt s j ≠ 47) : zzAt s = -1 := by
  have h : stroke s = none := by
    unfold stroke
    rw [strokeF_cut s.size s.size 0 (fun j _ h => hno j (by omega)) (by omega), Nat.sub_self]
    rfl
  unfold zzAt
  rw [h]
set_option maxHeartbeats 2000000 in
theorem zzIndex_any (s : ByteArray) (w : World) (hs : s.size < 1048576) :
    Calls Tryz.prog 124 #[.string s, .string ⟨#[47]⟩] w fun e w' => e = .returned (.int .i64 (zzAt s)) ∧ w = w' := by
  go_enter Tryz.func124, Tryz.ntmps124
  go_wp2_with fail
  go_loopg [5] s.size (fun k s5 wc => ∃ i : Nat, s5 = .int .i64 i ∧ i + k = s.size ∧ w = wc ∧ ∀ j, j < i → byteAt s j ≠ 47)
  case atStart => exact ⟨0, rfl, by omega, rfl, fun j hj => by omega⟩
  case round =>
    obtain ⟨i, rfl, hk, rfl, hno⟩ := hrel
    by_cases hi : i < s.size
    · have h1 : ((i : Int) + 1 ≤ (s.size : Int)) := by omega
      have h2 : decide ((i : Int) + 1 ≤ (s.size : Int)) = true := by simp; omega
      have h3 : (0 : Int) ≤ (i : Int) := by omega
      by_cases hc : byteAt s i = 47
      · have h4 := ext1_eq s i hi hc
        go_wp2
        go_ret
        refine ⟨?_, rfl⟩
        rw [zzAt_some hi hno hc]
        rfl
      · have h4 := ext1_ne s i hi hc
        go_wp2
        go_roundg (gk - 1)
        case measure => omega
        case rel => exact ⟨i + 1, by go_num, by omega, rfl, fun j hj => by
          rcases Nat.lt_or_ge j i with h | h
          · exact hno j h
          · obtain rfl : j = i := by omega
            exact hc⟩
    · have h2 : decide ((i : Int) + 1 ≤ (s.size : Int)) = false := by simp; omega
      go_wp2
      go_ret
      refine ⟨?_, rfl⟩
      rw [zzAt_none (fun j hj => hno j (by omega))]
      rfl
end Go.Proofs.YtmgfajamanakcaaGreatDoor
namespace Go.Proofs.YtmgfajamanakcaaGreatDoor
set_option linter.unusedSimpArgs false
open Go.RowKit
set_option maxRecDepth 100000
set_option linter.unusedVariables false
def StrPost (w : World) (s : ByteArray) (base : Int) (zb zo : Nat) (e : Ending) (w' : World) : Prop :=
  ∃ pv ok, e = .returned (.tuple #[pv, .bool ok]) ∧ (ok = true ↔ intOk s 0 base) ∧ (ok = true → ∃ a n c, IntC w' zb zo (decide (0 < n) && (signAt s 0).1) a n c ∧ Got w w' a n c (scanS base false s (signAt s 0).2).V) ∧ Chg (zRow zb zo 2) w w'
theorem SetString_one (s : ByteArray) (base : Int) (zb zo : Nat) (neg0 : Bool) (aE a1 a2 : Addr) (w : World) (hs : s.size < 1048576) (hzb : zb ≠ 0)
    (hE : Errs w (.iface 229 (.pointer (some aE))) (.iface 229 (.pointer (some a1))) (.iface 229 (.pointer (some a2)))) (hz : IntC w zb zo neg0 none 0 0) (hbase : base = 0 ∨ base = 2 ∨ base = 8 ∨ base = 10 ∨ base = 16) :
    Calls Tryz.prog 125 #[.pointer (some ⟨zb, zo, none⟩), .string s, .int .i64 base] w (StrPost w s base zb zo) := by
  refine (SetString_any s base zb zo neg0 aE a1 a2 w hs hzb hE hz hbase).mono ?_
  rintro e w' (⟨h0, rfl, h1, h2⟩ | ⟨h0, rfl, h2⟩)
  · exact ⟨_, true, rfl, ⟨fun _ => h0, fun _ => rfl⟩, fun _ => h1, h2⟩
  · exact ⟨_, false, rfl, ⟨(fun h => by cases h), fun h => absurd h h0⟩, (fun h => by cases h), h2⟩
def RatBad (w : World) (rb : Nat) (e : Ending) (w' : World) : Prop := e = .returned (.tuple #[.pointer none, .bool false]) ∧ Chg (zRow rb 0 4) w w'
def denOk (s : ByteArray) : Prop := (scanS 0 false s 0).err = 0 ∧ (scanS 0 false s 0).p = s.size
theorem Errs.far {Z : Zone} {w w' : World} {eof e1 e2 : Value} (h : Errs w eof e1 e2) (k : Chg Z w w') (hz : ∀ b, b < 14 → ¬ Z b 0) : Errs w' eof e1 e2 := ⟨k.cell h.eof (hz _ (by omega)), k.cell h.sep (hz _ (by omega)), k.cell h.dig (hz _ (by omega))⟩
theorem zzAt_of {s : ByteArray} {i : Nat} (h : stroke s = some i) : zzAt s = (i : Int) := by unfold zzAt; rw [h]
theorem zzAt_no {s : ByteArray} (h : stroke s = none) : zzAt s = -1 := by unfold zzAt; rw [h]
theorem zrow4 {w : World} {rb : Nat} (hb : rb < w.heap.size) : ∀ b o, b < w.heap.size → zRow w.heap.size 1 2 b o → zRow rb 0 4 b o := fun b o h hh => by have := hh.1; omega
set_option maxHeartbeats 8000000 in
theorem RatSet_slash (s : ByteArray) (i rb : Nat) (aE a1 a2 : Addr) (w : World) (hs : s.size < 1048576) (hrb : 14 ≤ rb)
    (hE : Errs w (.iface 229 (.pointer (some aE))) (.iface 229 (.pointer (some a1))) (.iface 229 (.pointer (some a2)))) (hA : IntC w rb 0 false none 0 0) (hB : IntC w rb 2 false none 0 0)
    (hst : stroke s = some i) (hbad : ¬ (intOk (s.extract 0 i) 0 0 ∧ denOk (s.extract (i + 1) s.size))) :
    Calls Tryz.prog 68 #[.pointer (some ⟨rb, 0, none⟩), .string s] w (RatBad w rb) := by
  have hsp := strokeF_some s.size 0 i hst
  have hi : i < s.size := by omega
  have hlt := hA.lt
  have hx1 : (s.extract 0 i).size < 1048576 := by simp; omega
  have hx2 : (s.extract (i + 1) s.size).size < 1048576 := by simp; omega
  have hne0 : ((s.size : Int) == 0) = false := beq_false_of_ne (by omega)
  have hge : decide ((0 : Int) ≤ (i : Int)) = true := by simp
  have hge2 : (0 : Int) ≤ (i : Int) := by omega
  have hle : (i : Int) ≤ (s.size : Int) := by omega
  have hle2 : (i : Int) + 1 ≤ (s.size : Int) := by omega
  have hle3 : (0 : Int) ≤ (i : Int) + 1 := by omega
  have kd : Chg zNone w w.drew := (Chg.refl _ _).drew
  have HZ := Lib.hid (show Calls Tryz.prog 124 #[.string s, .string ⟨#[47]⟩] w fun e w' => e = .returned (.int .i64 i) ∧ w = w' by
    have := zzIndex_any s w hs
    rwa [zzAt_of hst] at this)
  have HC := Lib.hid (SetString_one (s.extract 0 i) 0 rb 0 false aE a1 a2 w.drew hx1 (by omega) (hE.chg kd (fun _ h => h)) (hA.chg kd (fun _ _ h => h)) (Or.inl rfl))
  have HB := Lib.hid hB
  have HE := Lib.hid hE
  have Hbad := Lib.hid hbad
  clear hE hA hB kd hst hbad hsp
  go_enter Tryz.func68, Tryz.ntmps68
  go_wp2_with fail
  refine HZ.out.mono ?_
  rintro e w0 ⟨rfl, rfl⟩
  go_wp2_with fail
  go_region_with (go_at_call 125; refine HC.out.mono ?_; rintro e w1 ⟨pv, ok, rfl, q1, q2, q3⟩; have HQ := Lib.hid (And.intro q1 q3); clear q1 q2 q3)
  have kw : Hid (Chg (zRow rb 0 4) w w1) := ((Chg.refl _ w).drew).trans HQ.out.2 (fun b o _ hh => ⟨hh.1, by omega, by have := hh.2.2; omega⟩)
  cases ok with
  | false =>
    go_wp2
    go_ret2
    exact ⟨rfl, kw.out⟩
  | true =>
    have HE1 : Hid (Errs w1 (.iface 229 (.pointer (some aE))) (.iface 229 (.pointer (some a1))) (.iface 229 (.pointer (some a2)))) := HE.out.far kw.out (fun b hb hh => by have := hh.1; omega)
    have k2 : Chg (zRow rb 0 2) w w1 := ((Chg.refl _ w).drew).trans HQ.out.2 (fun b o _ hh => hh)
    have HB1 := Lib.hid (show IntC w1 rb 2 false none 0 0 from HB.out.chg k2 (fun o ho hh => by have := hh.2.2; omega))
    have HN := Lib.hid (NewReader_any (s.extract (i + 1) s.size) w1)
    have hlt1 : rb < w1.heap.size := by have := k2.size; omega
    have hsz1 : w.heap.size ≤ w1.heap.size := k2.size
    clear k2
    have Hin := Lib.hid (HQ.out.1.1 rfl)
    go_wp2_with fail
    refine HN.out.mono ?_
    rintro e w2 ⟨rfl, rfl⟩
    have kal : Chg zNone w1 (w1.alloc (.cells #[.string (s.extract (i + 1) s.size), .int .i64 0, .int .i64 (-1)] 225)) := (Chg.refl _ _).alloc _
    have HE2 := Lib.hid (HE1.out.chg kal (fun _ h => h))
    have HB2 := Lib.hid (HB1.out.chg kal (fun _ _ h => h))
    have HK2 := Lib.hid (kw.out.trans kal (fun _ _ _ h => h.elim))
    have HSC := Lib.hid (scan_any w1.heap.size (s.extract (i + 1) s.size) 0 0 false aE _ _ _ (rd_new (s.extract (i + 1) s.size) w1) hx2 (Nat.zero_le _) (by omega) HE2.out (Or.inl rfl))
    clear kal
    obtain ⟨hb0, hb1, hb2, hb3⟩ := HB2.out
    obtain ⟨sc, hsc⟩ : ∃ x, scanS 0 false (s.extract (i + 1) s.size) 0 = x := ⟨_, rfl⟩
    have Hsc := Lib.hid hsc
    have Hpo := Lib.hid (show sc.p ≤ (s.extract (i + 1) s.size).size by rw [← hsc]; exact (scanS_ok (Nat.zero_le _) (by omega)).2.1)
    rw [hsc] at HSC
    clear hsc
    go_wp2_with fail
    refine HSC.out.mono ?_
    rintro e w3 ⟨a, n, c, rfl, h1, h2, h3⟩
    clear hb0 hb1 hb2 hb3
    have HB3 := Lib.hid (HB2.out.chg h3 (fun o ho hh => by have := hh.1; omega))
    have HK3 := Lib.hid (HK2.out.trans h3 (fun b o hb hh => by have := hh.1; omega))
    have HE3 := Lib.hid (HE2.out.chg h3 (fun _ => zrow_zero))
    have HR3 := Lib.hid h2
    clear h1 h2 h3
    obtain ⟨hb0, hb1, hb2, hb3⟩ := HB3.out
    have KA : Hid (Chg (zRow rb 0 4) w (w3.setCell ⟨rb, 3, none⟩ (.slice a n c))) := HK3.out.setCell rb 3 _ (fun _ => ⟨rfl, by omega, by omega⟩)
    by_cases h0 : sc.err = 0
    · rw [if_pos h0]
      have HR4 := Lib.hid (read_head w1.heap.size (s.extract (i + 1) s.size) sc.p _ (w3.setCell ⟨rb, 3, none⟩ (.slice a n c)) (HR3.out.chg (chg_cell _ _ _ _) (fun o _ hh => by have := hh.1; omega)) (by omega) Hpo.out (by omega) (HE3.out.far (chg_cell _ _ _ _) (fun b hb hh => by have := hh.1; omega)).eof)
      go_wp2_with fail
      refine HR4.out.mono ?_
      rintro e w4 ⟨more, c4, rfl, h1, h2⟩
      have Hm := Lib.hid h1.2.1
      have he4 : w4.cell? ⟨0, 0, none⟩ = some (.iface 229 (.pointer (some aE))) := h2.cell (HE3.out.far (chg_cell _ _ _ _) (fun b hb hh => by have := hh.1; omega)).eof zrow_zero
      have K4 := Lib.hid (KA.out.trans h2 (fun b o hb hh => by have := hh.1; omega))
      clear h1 h2
      cases more with
      | true =>
        rw [errOf_true]
        have hnn := nil_neq aE
        go_wp2
        go_ret2
        exact ⟨rfl, K4.out⟩
      | false =>
        exfalso
        have h5 := Hpo.out
        have h6 : sc.p = (s.extract (i + 1) s.size).size := by
          rcases Nat.lt_or_ge sc.p (s.extract (i + 1) s.size).size with h | h
          · have := Hm.out.2 h; cases this
          · omega
        exact Hbad.out ⟨Hin.out, by rw [Hsc.out]; exact h0, by rw [Hsc.out]; exact h6⟩
    · rw [if_neg h0]
      by_cases h1 : sc.err = 1
      · rw [if_pos h1]
        go_wp2
        go_ret2
        exact ⟨rfl, KA.out⟩
      · rw [if_neg h1]
        go_wp2
        go_ret2
        exact ⟨rfl, KA.out⟩
end Go.Proofs.YtmgfajamanakcaaGreatDoor
