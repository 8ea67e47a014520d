/-
  strings.Reader: ReadByte, UnreadByte, NewReader. Conditions: the reader's cells are there, its text is short of 2^62 bytes.
-/
import Derived.Test.YtmgfajamanakcaaGreatDoorNatB
import Derived.Deep.QuietTactic
import Derived.Deep.Draws
namespace Go.Proofs.YtmgfajamanakcaaGreatDoor
open Go.RowKit
set_option maxRecDepth 100000
set_option linter.unusedVariables false
/-- A strings.Reader at br: its text and its place. -/
def RdAt (w : World) (br : Nat) (s : ByteArray) (i : Nat) : Prop :=
  w.cell? ⟨br, 0, none⟩ = some (.string s) ∧ w.cell? ⟨br, 1, none⟩ = some (.int .i64 i) ∧ (∃ p : Int, w.cell? ⟨br, 2, none⟩ = some (.int .i64 p)) ∧
  w.frozen? ⟨br, 1, none⟩ = false ∧ w.frozen? ⟨br, 2, none⟩ = false
theorem RdAt.chg {Z : Zone} {w w' : World} {br : Nat} {s : ByteArray} {i : Nat} (h : RdAt w br s i) (k : Chg Z w w') (hz : ∀ o, o < 3 → ¬ Z br o) : RdAt w' br s i := by
  obtain ⟨h0, h1, ⟨p, h2⟩, h3, h4⟩ := h
  exact ⟨k.cell h0 (hz 0 (by omega)), k.cell h1 (hz 1 (by omega)), ⟨p, k.cell h2 (hz 2 (by omega))⟩, by rw [k.frozen h0]; exact h3, by rw [k.frozen h0]; exact h4⟩
theorem cs_other {w : World} {b o o' : Nat} {v : Value} (h : o ≠ o') : (w.setCell ⟨b, o, none⟩ v).cell? ⟨b, o', none⟩ = w.cell? ⟨b, o', none⟩ :=
  World.cell?_setCell_other w _ _ _ (by intro e; injection e with _ e2 _; exact h e2)
theorem cs_same {w : World} {b o : Nat} {u v : Value} (h : w.cell? ⟨b, o, none⟩ = some u) : (w.setCell ⟨b, o, none⟩ v).cell? ⟨b, o, none⟩ = some v :=
  World.cell?_setCell_same' _ _ _ (by rw [h]; rfl)
theorem fz_set {w : World} {b o o' : Nat} {v : Value} {b' : Nat} : (w.setCell ⟨b, o, none⟩ v).frozen? ⟨b', o', none⟩ = w.frozen? ⟨b', o', none⟩ := World.frozen?_setCell ..
theorem rd_prev {w : World} {br : Nat} {s : ByteArray} {i : Nat} (h : RdAt w br s i) (q : Int) : RdAt (w.setCell ⟨br, 2, none⟩ (.int .i64 q)) br s i := by
  obtain ⟨h0, h1, ⟨p, h2⟩, h3, h4⟩ := h
  exact ⟨by rw [cs_other (by decide)]; exact h0, by rw [cs_other (by decide)]; exact h1, ⟨q, cs_same h2⟩, by rw [fz_set]; exact h3, by rw [fz_set]; exact h4⟩
theorem rd_move {w : World} {br : Nat} {s : ByteArray} {i : Nat} (h : RdAt w br s i) (j : Nat) : RdAt (w.setCell ⟨br, 1, none⟩ (.int .i64 j)) br s j := by
  obtain ⟨h0, h1, ⟨p, h2⟩, h3, h4⟩ := h
  exact ⟨by rw [cs_other (by decide)]; exact h0, cs_same h1, ⟨p, by rw [cs_other (by decide)]; exact h2⟩, by rw [fz_set]; exact h3, by rw [fz_set]; exact h4⟩
theorem rd_draw {w : World} {br : Nat} {s : ByteArray} {i : Nat} (h : RdAt w br s i) (n : Nat) : RdAt (w.drewN n) br s i := h
theorem chg_prev {w : World} (br : Nat) (q : Value) : Chg (zRow br 1 2) w (w.setCell ⟨br, 2, none⟩ q) := (Chg.refl _ _).setCell br 2 q (fun _ => ⟨rfl, by decide, by decide⟩)
def ReadPost (w : World) (br : Nat) (s : ByteArray) (i : Nat) (v err : Value) (e : Ending) (w' : World) : Prop :=
  e = .returned (.tuple #[v, err]) ∧ RdAt w' br s i ∧ Chg (zRow br 1 2) w w'
set_option maxHeartbeats 1000000 in
theorem ReadByte_more (br : Nat) (s : ByteArray) (i : Nat) (w : World) (h : RdAt w br s i) (hi : i < s.size) (hs : s.size < 4611686018427387904) :
    Calls Tryz.prog 113 #[.pointer (some ⟨br, 0, none⟩)] w (ReadPost w br s (i + 1) (.int .u8 (s[i]'hi).toNat) .nilIface) := by
  have hh := h
  obtain ⟨h0, h1, ⟨p, h2⟩, h3, h4⟩ := h
  have HH := Lib.hid hh
  clear hh
  have hge : decide ((s.size : Int) ≤ (i : Int)) = false := by simp; omega
  go_enter Tryz.func113, Tryz.ntmps113
  go_wp2_with fail
  go_quiet (fail)
  go_wp2_with fail
  go_quiet (fail)
  go_wp2_with fail
  go_ret2
  refine ⟨rfl, ?_, ?_⟩
  · exact rd_move (rd_draw (rd_prev HH.out _) _) (i + 1)
  · exact ((chg_prev br _).drewN _).setCell br 1 _ (fun _ => ⟨rfl, by decide, by decide⟩)
set_option maxHeartbeats 1000000 in
theorem ReadByte_end (br : Nat) (s : ByteArray) (i : Nat) (eof : Value) (w : World) (h : RdAt w br s i) (hi : s.size ≤ i) (hs : i < 4611686018427387904) (hbr : br ≠ 0) (hE : w.cell? ⟨0, 0, none⟩ = some eof) :
    Calls Tryz.prog 113 #[.pointer (some ⟨br, 0, none⟩)] w (ReadPost w br s i (.int .u8 0) eof) := by
  have hh := h
  obtain ⟨h0, h1, ⟨p, h2⟩, h3, h4⟩ := h
  have HH := Lib.hid hh
  clear hh
  have hge : decide ((s.size : Int) ≤ (i : Int)) = true := by simp; omega
  go_enter Tryz.func113, Tryz.ntmps113
  go_wp2_with fail
  go_quiet (fail)
  go_wp2_with fail
  go_quiet (fail)
  go_wp2_with fail
  go_ret2
  refine ⟨rfl, ?_, ?_⟩
  · exact rd_draw (rd_draw (rd_prev HH.out _) _) _
  · exact ((chg_prev br _).drewN _).drewN _
set_option maxHeartbeats 1000000 in
theorem UnreadByte_any (br : Nat) (s : ByteArray) (i : Nat) (w : World) (h : RdAt w br s (i + 1)) (hs : i < 4611686018427387904) :
    Calls Tryz.prog 316 #[.pointer (some ⟨br, 0, none⟩)] w fun e w' => e = .returned .nilIface ∧ RdAt w' br s i ∧ Chg (zRow br 1 2) w w' := by
  have HH := Lib.hid h
  obtain ⟨h0, h1, ⟨p, h2⟩, h3, h4⟩ := h
  go_enter Tryz.func316, Tryz.ntmps316
  go_wp2
  go_ret
  refine ⟨rfl, rd_move (rd_prev HH.out _) i, ?_⟩
  exact (chg_prev br _).setCell br 1 _ (fun _ => ⟨rfl, by decide, by decide⟩)
theorem NewReader_any (s : ByteArray) (w : World) :
    Calls Tryz.prog 111 #[.string s] w fun e w' => e = .returned (.pointer (some ⟨w.heap.size, 0, none⟩)) ∧ w.alloc (.cells #[.string s, .int .i64 0, .int .i64 (-1)] 225) = w' := by
  go_enter Tryz.func111, Tryz.ntmps111
  go_wp2
  go_ret
  exact ⟨rfl, rfl⟩
theorem rd_new (s : ByteArray) (w : World) : RdAt (w.alloc (.cells #[.string s, .int .i64 0, .int .i64 (-1)] 225)) w.heap.size s 0 :=
  ⟨by simp, by simp, ⟨-1, by simp⟩, by simp, by simp⟩
end Go.Proofs.YtmgfajamanakcaaGreatDoor
