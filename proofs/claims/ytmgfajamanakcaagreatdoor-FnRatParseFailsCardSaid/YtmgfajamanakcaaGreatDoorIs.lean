/-
  An Int in memory (sign, words); (*Int).scan walked. Conditions: as scan_any's; the Int's words nil.
-/
import Derived.Test.YtmgfajamanakcaaGreatDoorScan
import Derived.Test.YtmgfajamanakcaaGreatDoorIc
import Derived.Outline
namespace Go.Proofs.YtmgfajamanakcaaGreatDoor
open Go.RowKit
set_option maxRecDepth 100000
set_option linter.unusedVariables false
theorem eof_neq (a : Addr) (w : World) : (binOp .neq 110 (.iface 229 (.pointer (some a))) (.iface 229 (.pointer (some a)))).run Tryz.prog w = .ok (.bool false) w := by
  obtain ⟨i, hi⟩ := Option.isSome_iff_exists.1 info231
  have h := info229
  cases hj : Tryz.prog.info? 229 with
  | none => rw [hj] at h; cases h
  | some j =>
    rw [hj] at h
    have key := run_equalIn_iface_ptr_same (P := Tryz.prog) w 9998 a Tryz.underlying110 Tryz.underlying229 hj (by simpa using h) hi
    simp only [binOp]
    simp [Op.equal, Op.maxDepth, key]
theorem nil_neq (a : Addr) (w : World) : (binOp .neq 110 .nilIface (.iface 229 (.pointer (some a)))).run Tryz.prog w = .ok (.bool true) w := by
  have h : ∀ d : Nat, (Op.equalIn (d + 1) 110 .nilIface (.iface 229 (.pointer (some a)))).run Tryz.prog w = .ok false w := fun d => by simp [Op.equalIn, run_underlying Tryz.underlying110]
  simp only [binOp]
  simp [Op.equal, Op.maxDepth, h 9999]
theorem Got.base {w0 w1 w : World} {a : Option Addr} {n c : Nat} {V : Int} (h : Got w1 w a n c V) (hw : w0.heap.size ≤ w1.heap.size) : Got w0 w a n c V := by
  obtain ⟨h1, h2, h3, h4, h5⟩ := h
  refine ⟨h1, h2, h3, ?_, h5⟩
  rcases h4 with h4 | ⟨b, o, e, hb⟩
  · exact Or.inl h4
  · exact Or.inr ⟨b, o, e, by omega⟩
/-- The zone of a reader and of an Int. -/
def zIS (br zb zo : Nat) : Zone := zOr (zRow br 1 2) (zRow zb zo 2)
theorem Chg.sign {w w' : World} {br zb zo : Nat} (h : Chg (zIS br zb zo) w w') (v : Value) : Chg (zIS br zb zo) w (w'.setCell ⟨zb, zo, none⟩ v) := h.setCell zb zo v (fun _ => Or.inr ⟨rfl, by omega, by omega⟩)
theorem Chg.abs {w w' : World} {br zb zo : Nat} (h : Chg (zIS br zb zo) w w') (v : Value) : Chg (zIS br zb zo) w (w'.setCell ⟨zb, zo + 1, none⟩ v) := h.setCell zb (zo + 1) v (fun _ => Or.inr ⟨rfl, by omega, by omega⟩)
theorem Got.cell {w0 w : World} {a : Option Addr} {n c : Nat} {V : Int} (h : Got w0 w a n c V) (b o : Nat) (v : Value) (hb : b < w0.heap.size) : Got w0 (w.setCell ⟨b, o, none⟩ v) a n c V :=
  h.chg (chg_cell w b o v) (fun b' o' hz hh => by
    have := h.2.2.2.1.zone (c := c) b' o' (by rw [hh.1]; exact hb)
    exact this hz)
def IntOk (w : World) (br : Nat) (s : ByteArray) (zb zo : Nat) (neg : Bool) (sc : Scan) (e : Ending) (w' : World) : Prop :=
  e = .returned (.tuple #[.pointer (some ⟨zb, zo, none⟩), .int .i64 sc.b, .nilIface]) ∧ (∃ a n c, IntC w' zb zo (decide (0 < n) && neg) a n c ∧ Got w w' a n c sc.V) ∧ RdAt w' br s sc.p ∧ Chg (zIS br zb zo) w w'
def IntBad (w : World) (br zb zo : Nat) (e : Ending) (w' : World) : Prop :=
  ∃ b t v, e = .returned (.tuple #[.pointer none, .int .i64 b, .iface t v]) ∧ Chg (zIS br zb zo) w w'
theorem signAt_le {s : ByteArray} {p : Nat} (hp : p < s.size) : (signAt s p).2 ≤ s.size := by
  unfold signAt
  split
  · simp only; omega
  · split <;> (simp only; omega)
set_option maxHeartbeats 4000000 in
theorem IntScan_more (br : Nat) (s : ByteArray) (p : Nat) (base : Int) (zb zo : Nat) (neg0 : Bool) (aE a1 a2 : Addr) (w : World) (h : RdAt w br s p) (hs : s.size < 1048576) (hp : p < s.size) (hbr : br ≠ 0) (hne : zb ≠ br)
    (hE : Errs w (.iface 229 (.pointer (some aE))) (.iface 229 (.pointer (some a1))) (.iface 229 (.pointer (some a2)))) (hz : IntC w zb zo neg0 none 0 0) (hbase : base = 0 ∨ base = 2 ∨ base = 8 ∨ base = 10 ∨ base = 16) :
    Calls Tryz.prog 228 #[.pointer (some ⟨zb, zo, none⟩), .iface 169 (.pointer (some ⟨br, 0, none⟩)), .int .i64 base] w fun e w' =>
      ((scanS base false s (signAt s p).2).err = 0 ∧ IntOk w br s zb zo (signAt s p).1 (scanS base false s (signAt s p).2) e w') ∨ ((scanS base false s (signAt s p).2).err ≠ 0 ∧ IntBad w br zb zo e w') := by
  have HC := Lib.hid (scanSign_more br s p w h hp (by omega))
  have hq := signAt_le hp
  obtain ⟨sg, hsg⟩ : ∃ x, signAt s p = x := ⟨_, rfl⟩
  rw [hsg] at hq HC ⊢
  obtain ⟨neg, q⟩ := sg
  simp only at hq HC ⊢
  obtain ⟨sc, hsc⟩ : ∃ x, scanS base false s q = x := ⟨_, rfl⟩
  rw [hsc]
  have Hsc := Lib.hid hsc
  have H := Lib.hid (And.intro h (And.intro hE hz))
  have hlt := hz.lt
  clear h hE hz hsc hsg
  go_enter Tryz.func228, Tryz.ntmps228
  go_wp2_with fail
  refine HC.out.mono ?_
  rintro e w1 ⟨rfl, h1, h2⟩
  have HZ1 := Lib.hid (H.out.2.2.chg h2 (fun o _ hh => hne hh.1))
  have HS := Lib.hid (scan_any br s q base false aE _ _ w1 h1 hs hq hbr (H.out.2.1.chg h2 (fun _ => zrow_zero)) hbase)
  have H1 := Lib.hid h2
  clear h1 h2
  rw [Hsc.out] at HS
  obtain ⟨hz1, hz2, hz3, hz4⟩ := HZ1.out
  go_wp2_with fail
  refine HS.out.mono ?_
  rintro e w2 ⟨a, n, c, rfl, h1, h2, h3⟩
  clear hz1 hz2 hz3 hz4
  have HZ2 := Lib.hid (HZ1.out.chg h3 (fun o _ hh => hne hh.1))
  have HG := Lib.hid (h1.base H1.out.size)
  have HR := Lib.hid h2
  have HK : Hid (Chg (zIS br zb zo) w w2) := (H1.out.trans h3 (fun _ _ _ h => h)).mono (fun _ _ _ h => Or.inl h)
  clear h1 h2 h3
  obtain ⟨hz1, hz2, hz3, hz4⟩ := HZ2.out
  obtain ⟨hz5, hz6, hz7, hz8⟩ := HZ2.out.abs (a' := a) (n' := n) (c' := c)
  by_cases h0 : sc.err = 0
  · rw [if_pos h0]
    by_cases hn : n = 0
    · subst hn
      have hgt : decide ((0 : Int) < ((0 : Nat) : Int)) = false := by simp
      go_wp2
      go_ret3
      refine Or.inl ⟨h0, rfl, ⟨a, 0, c, ?_, ?_⟩, ?_, ?_⟩
      · exact HZ2.out.abs.sign
      · exact (HG.out.cell _ _ _ hlt).cell _ _ _ hlt
      · exact (HR.out.chg (chg_cell _ _ _ _) (fun o _ hh => hne hh.1.symm)).chg (chg_cell _ _ _ _) (fun o _ hh => hne hh.1.symm)
      · exact (HK.out.abs _).sign _
    · have hgt : decide ((0 : Int) < (n : Int)) = true := by simp; omega
      have hd : decide (0 < n) = true := by simp; omega
      go_wp2
      go_ret3
      refine Or.inl ⟨h0, rfl, ⟨a, n, c, ?_, ?_⟩, ?_, ?_⟩
      · rw [hd]; exact HZ2.out.abs.sign
      · exact (HG.out.cell _ _ _ hlt).cell _ _ _ hlt
      · exact (HR.out.chg (chg_cell _ _ _ _) (fun o _ hh => hne hh.1.symm)).chg (chg_cell _ _ _ _) (fun o _ hh => hne hh.1.symm)
      · exact (HK.out.abs _).sign _
  · rw [if_neg h0]
    by_cases h1 : sc.err = 1
    · rw [if_pos h1]
      go_wp2
      go_ret3
      exact Or.inr ⟨h0, _, _, _, rfl, HK.out.abs _⟩
    · rw [if_neg h1]
      go_wp2
      go_ret3
      exact Or.inr ⟨h0, _, _, _, rfl, HK.out.abs _⟩
set_option maxHeartbeats 2000000 in
theorem IntScan_end (br : Nat) (s : ByteArray) (p : Nat) (base : Int) (zb zo : Nat) (aE : Addr) (w : World) (h : RdAt w br s p) (hs : s.size < 1048576) (hp : s.size ≤ p) (hp2 : p < 1048577) (hbr : br ≠ 0)
    (hE : w.cell? ⟨0, 0, none⟩ = some (.iface 229 (.pointer (some aE)))) :
    Calls Tryz.prog 228 #[.pointer (some ⟨zb, zo, none⟩), .iface 169 (.pointer (some ⟨br, 0, none⟩)), .int .i64 base] w (IntBad w br zb zo) := by
  have HC := Lib.hid (scanSign_end br s p 229 (.pointer (some aE)) w h hp (by omega) hbr hE)
  clear h hE
  go_enter Tryz.func228, Tryz.ntmps228
  go_wp2_with fail
  refine HC.out.mono ?_
  rintro e w1 ⟨rfl, h1, h2⟩
  have H1 := Lib.hid h2
  clear h1 h2
  go_wp2
  go_ret3
  exact ⟨_, _, _, rfl, H1.out.mono (fun _ _ _ h => Or.inl h)⟩
/-- (*Int).setFromScanner: all bytes are scanned, or it fails. -/
def SetOk (w : World) (br : Nat) (s : ByteArray) (zb zo : Nat) (neg : Bool) (sc : Scan) (e : Ending) (w' : World) : Prop :=
  e = .returned (.tuple #[.pointer (some ⟨zb, zo, none⟩), .bool true]) ∧ (∃ a n c, IntC w' zb zo (decide (0 < n) && neg) a n c ∧ Got w w' a n c sc.V) ∧ Chg (zIS br zb zo) w w'
def SetBad (w : World) (br zb zo : Nat) (e : Ending) (w' : World) : Prop := e = .returned (.tuple #[.pointer none, .bool false]) ∧ Chg (zIS br zb zo) w w'
def intOk (s : ByteArray) (p : Nat) (base : Int) : Prop := p < s.size ∧ (scanS base false s (signAt s p).2).err = 0 ∧ (scanS base false s (signAt s p).2).p = s.size
set_option maxHeartbeats 4000000 in
theorem setFromScanner_any (br : Nat) (s : ByteArray) (p : Nat) (base : Int) (zb zo : Nat) (neg0 : Bool) (aE a1 a2 : Addr) (w : World) (h : RdAt w br s p) (hs : s.size < 1048576) (hp : p ≤ s.size) (hbr : br ≠ 0) (hzb : zb ≠ 0) (hne : zb ≠ br)
    (hE : Errs w (.iface 229 (.pointer (some aE))) (.iface 229 (.pointer (some a1))) (.iface 229 (.pointer (some a2)))) (hz : IntC w zb zo neg0 none 0 0) (hbase : base = 0 ∨ base = 2 ∨ base = 8 ∨ base = 10 ∨ base = 16) :
    Calls Tryz.prog 181 #[.pointer (some ⟨zb, zo, none⟩), .iface 169 (.pointer (some ⟨br, 0, none⟩)), .int .i64 base] w fun e w' =>
      (intOk s p base ∧ SetOk w br s zb zo (signAt s p).1 (scanS base false s (signAt s p).2) e w') ∨ (¬ intOk s p base ∧ SetBad w br zb zo e w') := by
  have hee := eof_neq aE
  have hnn := nil_neq aE
  have hr := method_read
  by_cases hq : p < s.size
  · have HC := Lib.hid (IntScan_more br s p base zb zo neg0 aE a1 a2 w h hs hq hbr hne hE hz hbase)
    have HE := Lib.hid hE
    have Hpo := Lib.hid (show (scanS base false s (signAt s p).2).p ≤ s.size from (scanS_ok (signAt_le hq) (by omega)).2.1)
    have hlt := hz.lt
    clear h hE hz
    go_enter Tryz.func181, Tryz.ntmps181
    go_wp2_with fail
    refine HC.out.mono ?_
    rintro e w1 (⟨he, rfl, h2, h3, h4⟩ | ⟨he, b, t, v, rfl, h4⟩)
    · have hz0 : ∀ b, ¬ zIS br zb zo b 0 ∨ True := fun _ => Or.inr trivial
      have he0 : w1.cell? ⟨0, 0, none⟩ = some (.iface 229 (.pointer (some aE))) := h4.cell HE.out.eof (fun hh => by
        rcases hh with hh | hh
        · exact zrow_zero hh
        · exact hzb hh.1.symm)
      have HI := Lib.hid h2
      have HK := Lib.hid h4
      have HRd := Lib.hid h3
      have HR := Lib.hid (read_head br s _ _ w1 h3 (by omega) Hpo.out hbr he0)
      clear h2 h3 h4 hz0
      go_wp2_with fail
      refine HR.out.mono ?_
      rintro e w2 ⟨more, c, rfl, h1, h2⟩
      have he2 : w2.cell? ⟨0, 0, none⟩ = some (.iface 229 (.pointer (some aE))) := h2.cell he0 zrow_zero
      have HK2 : Hid (Chg (zIS br zb zo) w w2) := HK.out.trans h2 (fun _ _ _ h => Or.inl h)
      have HI2 : Hid (∃ a n c, IntC w2 zb zo (decide (0 < n) && (signAt s p).1) a n c ∧ Got w w2 a n c (scanS base false s (signAt s p).2).V) := by
        obtain ⟨a, n, c, g1, g2⟩ := HI.out
        exact ⟨a, n, c, g1.chg h2 (fun o _ hh => hne hh.1), g2.chg h2 (fun b o hz => rd_apart' HRd.out g2.2.2.1 b o hz)⟩
      have Hm := Lib.hid h1.2.1
      clear h1 h2 he0
      cases more with
      | true =>
        rw [errOf_true]
        have hno : ¬ intOk s p base := fun hh => by have := Hm.out.1 rfl; have := hh.2.2; omega
        go_wp2
        go_ret2
        exact Or.inr ⟨hno, rfl, HK2.out⟩
      | false =>
        rw [errOf_false]
        have hyes : intOk s p base := ⟨hq, he, by
          have h1 := Hpo.out
          rcases Nat.lt_or_ge (scanS base false s (signAt s p).2).p s.size with h2 | h2
          · have := Hm.out.2 h2; cases this
          · omega⟩
        go_wp2
        go_ret2
        exact Or.inl ⟨hyes, rfl, HI2.out, HK2.out⟩
    · have HK := Lib.hid h4
      clear h4
      go_wp2
      go_ret2
      exact Or.inr ⟨fun hh => he hh.2.1, rfl, HK.out⟩
  · have HC := Lib.hid (IntScan_end br s p base zb zo aE w h hs (by omega) (by omega) hbr hE.eof)
    clear h hE hz
    go_enter Tryz.func181, Tryz.ntmps181
    go_wp2_with fail
    refine HC.out.mono ?_
    rintro e w1 ⟨b, t, v, rfl, h4⟩
    have HK := Lib.hid h4
    clear h4
    go_wp2
    go_ret2
    exact Or.inr ⟨fun hh => hq hh.1, rfl, HK.out⟩
end Go.Proofs.YtmgfajamanakcaaGreatDoor
