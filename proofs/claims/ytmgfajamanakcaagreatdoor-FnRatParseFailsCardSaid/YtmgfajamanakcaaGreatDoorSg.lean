/-
  scanSign over a strings.Reader. Conditions: as Rd.
-/
import Derived.Test.YtmgfajamanakcaaGreatDoorRd
namespace Go.Proofs.YtmgfajamanakcaaGreatDoor
open Go.RowKit
set_option maxRecDepth 100000
set_option linter.unusedVariables false
/-- Byte i of a text, as a number. -/
def byteAt (s : ByteArray) (i : Nat) : Int := (s.data.toList.getD i 0).toNat
theorem byteAt_eq (s : ByteArray) (i : Nat) (hi : i < s.size) : ((s[i]'hi).toNat : Int) = byteAt s i := by
  unfold byteAt
  rw [List.getD_eq_getElem?_getD, List.getElem?_eq_getElem (by simpa using hi)]
  rfl
theorem byteAt_range (s : ByteArray) (i : Nat) : 0 ≤ byteAt s i ∧ byteAt s i ≤ 255 := by
  unfold byteAt
  have := (s.data.toList.getD i 0).toNat_lt
  omega
theorem read_more (br : Nat) (s : ByteArray) (i : Nat) (c : Int) (w : World) (h : RdAt w br s i) (hi : i < s.size) (hs : s.size < 4611686018427387904) (hc : byteAt s i = c) :
    Calls Tryz.prog 113 #[.pointer (some ⟨br, 0, none⟩)] w (ReadPost w br s (i + 1) (.int .u8 c) .nilIface) := by
  rw [← hc, ← byteAt_eq s i hi]
  exact ReadByte_more br s i w h hi hs
theorem method_read (a : Addr) (w : World) : (method 442 169 (.pointer (some a)) "ReadByte").run Tryz.prog w = .ok (113, .pointer (some a)) w := by kernel_rfl
theorem method_unread (a : Addr) (w : World) : (method 442 169 (.pointer (some a)) "UnreadByte").run Tryz.prog w = .ok (316, .pointer (some a)) w := by kernel_rfl
/-- The sign ahead of a number, and where the number begins. -/
def signAt (s : ByteArray) (i : Nat) : Bool × Nat := if byteAt s i = 45 then (true, i + 1) else if byteAt s i = 43 then (false, i + 1) else (false, i)
set_option maxHeartbeats 1000000 in
theorem scanSign_more (br : Nat) (s : ByteArray) (i : Nat) (w : World) (h : RdAt w br s i) (hi : i < s.size) (hs : s.size < 4611686018427387904) :
    Calls Tryz.prog 127 #[.iface 169 (.pointer (some ⟨br, 0, none⟩))] w (ReadPost w br s (signAt s i).2 (.bool (signAt s i).1) .nilIface) := by
  have H := Lib.hid h
  clear h
  have hr := method_read
  have hu := method_unread
  obtain ⟨c, hc⟩ : ∃ c, byteAt s i = c := ⟨_, rfl⟩
  have Hc := Lib.hid hc
  have hcr := byteAt_range s i
  rw [hc] at hcr
  obtain ⟨hc0, hc1⟩ := hcr
  clear hc
  by_cases h45 : c = 45
  · have HS := Lib.hid (show signAt s i = (true, i + 1) by unfold signAt; rw [Hc.out, if_pos h45])
    have b1 : (c == 45) = true := by simp [h45]
    clear h45
    go_enter Tryz.func127, Tryz.ntmps127
    go_wp2_with fail
    refine (read_more br s i c _ H.out hi hs Hc.out).mono ?_
    rintro e w1 ⟨rfl, h1, h2⟩
    have H1 := Lib.hid (And.intro h1 h2)
    clear h1 h2
    go_wp2
    go_ret2
    exact ⟨by rw [HS.out]; rfl, by rw [HS.out]; exact H1.out.1, H1.out.2⟩
  · by_cases h43 : c = 43
    · have HS := Lib.hid (show signAt s i = (false, i + 1) by unfold signAt; rw [Hc.out, if_neg h45, if_pos h43])
      have b1 : (c == 45) = false := by simp [h45]
      have b2 : (c == 43) = true := by simp [h43]
      clear h45 h43
      go_enter Tryz.func127, Tryz.ntmps127
      go_wp2_with fail
      refine (read_more br s i c _ H.out hi hs Hc.out).mono ?_
      rintro e w1 ⟨rfl, h1, h2⟩
      have H1 := Lib.hid (And.intro h1 h2)
      clear h1 h2
      go_wp2
      go_ret2
      exact ⟨by rw [HS.out]; rfl, by rw [HS.out]; exact H1.out.1, H1.out.2⟩
    · have HS := Lib.hid (show signAt s i = (false, i) by unfold signAt; rw [Hc.out, if_neg h45, if_neg h43])
      have b1 : (c == 45) = false := by simp [h45]
      have b2 : (c == 43) = false := by simp [h43]
      clear h45 h43
      go_enter Tryz.func127, Tryz.ntmps127
      go_wp2_with fail
      refine (read_more br s i c _ H.out hi hs Hc.out).mono ?_
      rintro e w1 ⟨rfl, h1, h2⟩
      have H1 := Lib.hid (And.intro h1 h2)
      clear h1 h2
      go_wp2_with fail
      refine (UnreadByte_any br s i _ H1.out.1 (by omega)).mono ?_
      rintro e w2 ⟨rfl, h1, h2⟩
      have H2 := Lib.hid (And.intro h1 (H1.out.2.trans h2 (fun _ _ _ h => h)))
      clear h1 h2
      go_wp2
      go_ret2
      exact ⟨by rw [HS.out]; rfl, by rw [HS.out]; exact H2.out.1, H2.out.2⟩
set_option maxHeartbeats 1000000 in
theorem scanSign_end (br : Nat) (s : ByteArray) (i : Nat) (t : TypeId) (v : Value) (w : World) (h : RdAt w br s i) (hi : s.size ≤ i) (hs : i < 4611686018427387904) (hbr : br ≠ 0) (hE : w.cell? ⟨0, 0, none⟩ = some (.iface t v)) :
    Calls Tryz.prog 127 #[.iface 169 (.pointer (some ⟨br, 0, none⟩))] w (ReadPost w br s i (.bool false) (.iface t v)) := by
  have H := Lib.hid h
  have HE := Lib.hid hE
  clear h hE
  have hr := method_read
  go_enter Tryz.func127, Tryz.ntmps127
  go_wp2_with fail
  refine (ReadByte_end br s i _ _ H.out hi hs hbr HE.out).mono ?_
  rintro e w1 ⟨rfl, h1, h2⟩
  have H1 := Lib.hid (And.intro h1 h2)
  clear h1 h2
  go_wp2
  go_ret2
  exact ⟨rfl, H1.out.1, H1.out.2⟩
end Go.Proofs.YtmgfajamanakcaaGreatDoor
