/-
  impl.RatParse on a text that is no number, walked. Conditions: as Rt's and Ru's; the globals are set.
-/
import Derived.Test.YtmgfajamanakcaaGreatDoorRu
import Derived.Outline
namespace Go.Proofs.YtmgfajamanakcaaGreatDoor
open Go.RowKit
set_option maxRecDepth 100000
set_option linter.unusedVariables false
/-- The text is no number that SetString takes. -/
def ratNo (s : ByteArray) : Prop := s.size = 0 ∨ (∃ i, stroke s = some i ∧ ¬ (intOk (s.extract 0 i) 0 0 ∧ denOk (s.extract (i + 1) s.size))) ∨ (0 < s.size ∧ stroke s = none ∧ ¬ decOk s)
theorem RatSet_no (s : ByteArray) (rb : Nat) (aE a1 a2 : Addr) (w : World) (hs : s.size < 1048576) (hrb : 14 ≤ rb)
    (hE : Errs w (.iface 229 (.pointer (some aE))) (.iface 229 (.pointer (some a1))) (.iface 229 (.pointer (some a2)))) (hPE : PErrs w) (hA : IntC w rb 0 false none 0 0) (hB : IntC w rb 2 false none 0 0) (hno : ratNo s) :
    Calls Tryz.prog 68 #[.pointer (some ⟨rb, 0, none⟩), .string s] w (RatBad w rb) := by
  rcases hno with h | ⟨i, h1, h2⟩ | ⟨h0, h1, h2⟩
  · exact RatSet_empty s rb w h
  · exact RatSet_slash s i rb aE a1 a2 w hs hrb hE hA hB h1 h2
  · exact RatSet_plain s rb aE a1 a2 w hs h0 hrb hE hPE hA h1 h2
set_option maxHeartbeats 2000000 in
theorem RatParse_no (s : ByteArray) (aE a1 a2 : Addr) (w : World) (hs : s.size < 1048576) (hw : 14 ≤ w.heap.size)
    (hE : Errs w (.iface 229 (.pointer (some aE))) (.iface 229 (.pointer (some a1))) (.iface 229 (.pointer (some a2)))) (hPE : PErrs w) (hno : ratNo s) :
    Calls Tryz.prog 36 #[.string s] w fun e w' => e = .returned (.tuple #[.agg #[.bool false, .slice none 0 0, .slice none 0 0], .bool false]) ∧ Chg zNone w w' := by
  have H := Lib.hid (And.intro hE (And.intro hPE hno))
  clear hE hPE hno
  go_enter Tryz.func36, Tryz.ntmps36
  go_wp2_with fail
  have hz : (w.alloc (.cells #[.bool false, .slice none 0 0, .slice none 0 0] 31)).heap.size = w.heap.size + 1 := by
    show (w.heap.push _).size = _
    simp
  have hn : ∀ i v, (#[Value.bool false, .slice none 0 0, .bool false, .slice none 0 0] : Array Value)[i]? = some v → ((w.alloc (.cells #[.bool false, .slice none 0 0, .slice none 0 0] 31)).alloc (.cells #[.bool false, .slice none 0 0, .bool false, .slice none 0 0] 124)).cell? ⟨w.heap.size + 1, i, none⟩ = some v := fun i v hv => by
    have := cell?_alloc_new (w.alloc (.cells #[.bool false, .slice none 0 0, .slice none 0 0] 31)) #[.bool false, .slice none 0 0, .bool false, .slice none 0 0] 124 i v hv
    rwa [hz] at this
  have hf : ∀ i, ((w.alloc (.cells #[.bool false, .slice none 0 0, .slice none 0 0] 31)).alloc (.cells #[.bool false, .slice none 0 0, .bool false, .slice none 0 0] 124)).frozen? ⟨w.heap.size + 1, i, none⟩ = false := fun i => by
    have := frozen?_alloc_new (w.alloc (.cells #[.bool false, .slice none 0 0, .slice none 0 0] 31)) #[.bool false, .slice none 0 0, .bool false, .slice none 0 0] 124 i
    rwa [hz] at this
  have k0 : Chg zNone w ((w.alloc (.cells #[.bool false, .slice none 0 0, .slice none 0 0] 31)).alloc (.cells #[.bool false, .slice none 0 0, .bool false, .slice none 0 0] 124)) := ((Chg.refl _ _).alloc _).alloc _
  have k1 : Chg zNone (w.alloc (.cells #[.bool false, .slice none 0 0, .slice none 0 0] 31)) ((w.alloc (.cells #[.bool false, .slice none 0 0, .slice none 0 0] 31)).alloc (.cells #[.bool false, .slice none 0 0, .bool false, .slice none 0 0] 124)) := (Chg.refl _ _).alloc _
  refine (RatSet_no s (w.heap.size + 1) aE a1 a2 _ hs (by omega) (H.out.1.chg k0 (fun _ h => h)) (H.out.2.1.chg k0 (fun _ h => h)) ⟨hn 0 _ rfl, hn 1 _ rfl, hf 0, hf 1⟩ ⟨hn 2 _ rfl, hn 3 _ rfl, hf 2, hf 3⟩ H.out.2.2).mono ?_
  rintro e w3 ⟨rfl, h1⟩
  have k2 : Chg zNone w w3 := k0.trans h1 (fun b o hb hh => by have := hh.1; omega)
  have hc : ∀ i v, (#[Value.bool false, .slice none 0 0, .slice none 0 0] : Array Value)[i]? = some v → w3.cell? ⟨w.heap.size, i, none⟩ = some v := fun i v hv =>
    h1.cell (k1.cell (cell?_alloc_new w _ 31 i v hv) (fun h => h)) (fun hh => by have := hh.1; omega)
  have hg : ∀ i, w3.frozen? ⟨w.heap.size, i, none⟩ = false := fun i => by
    rw [h1.frozen (k1.cell (cell?_alloc_new w #[.bool false, .slice none 0 0, .slice none 0 0] 31 0 _ rfl) (fun h => h)), k1.frozen (cell?_alloc_new w #[.bool false, .slice none 0 0, .slice none 0 0] 31 0 _ rfl)]
    exact frozen?_alloc_new w _ 31 i
  have c0 : w3.cell? ⟨w.heap.size, 0, none⟩ = some (.bool false) := hc 0 _ rfl
  have c1 : w3.cell? ⟨w.heap.size, 1, none⟩ = some (.slice none 0 0) := hc 1 _ rfl
  have c2 : w3.cell? ⟨w.heap.size, 2, none⟩ = some (.slice none 0 0) := hc 2 _ rfl
  have g0 := hg 0
  have g1 := hg 1
  have g2 := hg 2
  have K2 := Lib.hid k2
  clear hc hg hn hf k0 k1 k2 h1 hz
  go_wp2
  have d0 : (((w3.setCell ⟨w.heap.size, 0, none⟩ (.bool false)).setCell ⟨w.heap.size, 1, none⟩ (.slice none 0 0)).setCell ⟨w.heap.size, 2, none⟩ (.slice none 0 0)).cell? ⟨w.heap.size, 0, none⟩ = some (.bool false) := by
    rw [cs_other (by decide), cs_other (by decide)]; exact cs_same c0
  have d1 : (((w3.setCell ⟨w.heap.size, 0, none⟩ (.bool false)).setCell ⟨w.heap.size, 1, none⟩ (.slice none 0 0)).setCell ⟨w.heap.size, 2, none⟩ (.slice none 0 0)).cell? ⟨w.heap.size, 1, none⟩ = some (.slice none 0 0) := by
    rw [cs_other (by decide)]; exact cs_same (by rw [cs_other (by decide)]; exact c1)
  have d2 : (((w3.setCell ⟨w.heap.size, 0, none⟩ (.bool false)).setCell ⟨w.heap.size, 1, none⟩ (.slice none 0 0)).setCell ⟨w.heap.size, 2, none⟩ (.slice none 0 0)).cell? ⟨w.heap.size, 2, none⟩ = some (.slice none 0 0) :=
    cs_same (by rw [cs_other (by decide), cs_other (by decide)]; exact c2)
  have kk : Chg (zRow w.heap.size 0 3) w3 (((w3.setCell ⟨w.heap.size, 0, none⟩ (.bool false)).setCell ⟨w.heap.size, 1, none⟩ (.slice none 0 0)).setCell ⟨w.heap.size, 2, none⟩ (.slice none 0 0)) :=
    (((Chg.refl _ _).setCell _ 0 _ (fun _ => ⟨rfl, by omega, by omega⟩)).setCell _ 1 _ (fun _ => ⟨rfl, by omega, by omega⟩)).setCell _ 2 _ (fun _ => ⟨rfl, by omega, by omega⟩)
  refine bodyPost_ret (v := .tuple #[.agg #[.bool false, .slice none 0 0, .slice none 0 0], .bool false]) (by simp [results, Tryz.results36, go_sem, d0, d1, d2]) rfl ?_
  exact ⟨rfl, K2.out.trans kk (fun b o hb hh => by have := hh.1; omega)⟩
/-- The text is odd in the law's sense: no number byte and no stroke, or a stroke at an end, or two strokes. -/
def odd1 (s : ByteArray) : Prop := s.size = 0 ∨ (∃ i, i < s.size ∧ ¬ okB (byteAt s i) ∧ byteAt s i ≠ 47) ∨ (0 < s.size ∧ (byteAt s 0 = 47 ∨ byteAt s (s.size - 1) = 47)) ∨ ∃ i j, i < j ∧ j < s.size ∧ byteAt s i = 47 ∧ byteAt s j = 47
theorem byteAt_ext (s : ByteArray) (a b k : Nat) (hb : b ≤ s.size) (hk : a + k < b) : byteAt (s.extract a b) k = byteAt s (a + k) := by
  unfold byteAt
  congr 2
  simp only [ByteArray.data_extract, Array.toList_extract, List.extract_eq_take_drop]
  rw [List.getD_eq_getElem?_getD, List.getD_eq_getElem?_getD, List.getElem?_take, if_pos (by omega), List.getElem?_drop]
theorem signAt_ok {s : ByteArray} {p : Nat} (hp : p < s.size) : p ≤ (signAt s p).2 ∧ ∀ i, p ≤ i → i < (signAt s p).2 → okB (byteAt s i) := by
  unfold signAt okB
  split
  · refine ⟨by simp only; omega, fun i h1 h2 => ?_⟩
    simp only at h2
    obtain rfl : i = p := by omega
    omega
  · split
    · refine ⟨by simp only; omega, fun i h1 h2 => ?_⟩
      simp only at h2
      obtain rfl : i = p := by omega
      omega
    · exact ⟨Nat.le_refl _, fun i h1 h2 => by simp only at h2; omega⟩
theorem scanS_none_err {s : ByteArray} {p : Nat} (h : s.size ≤ p) : (scanS 0 false s p).err ≠ 0 := by
  have hp : preS 0 false s p = ⟨10, 0, p, 46, 0⟩ := by
    unfold preS
    simp
    omega
  unfold scanS lastS startS
  rw [hp]
  rw [runS_end (by simpa using h)]
  simp
theorem intOk_bytes {s : ByteArray} (h : intOk s 0 0) : 0 < s.size ∧ ∀ i, i < s.size → okB (byteAt s i) := by
  obtain ⟨h1, h2, h3⟩ := h
  have hs := signAt_ok h1
  have hc := scanS_ok (base := 0) (frac := false) (signAt_le h1) (by omega)
  refine ⟨h1, fun i hi => ?_⟩
  rcases Nat.lt_or_ge i (signAt s 0).2 with h | h
  · exact hs.2 i (Nat.zero_le _) h
  · exact hc.2.2 i h (by omega)
theorem denOk_bytes {s : ByteArray} (h : denOk s) : 0 < s.size ∧ ∀ i, i < s.size → okB (byteAt s i) := by
  obtain ⟨h2, h3⟩ := h
  have hc := scanS_ok (base := 0) (frac := false) (s := s) (Nat.zero_le _) (by omega)
  refine ⟨?_, fun i hi => hc.2.2 i (Nat.zero_le _) (by omega)⟩
  rcases Nat.eq_zero_or_pos s.size with h | h
  · exact absurd h2 (scanS_none_err (by omega))
  · exact h
theorem decOk_bytes {s : ByteArray} (h0 : 0 < s.size) (h : decOk s) : ∀ i, i < s.size → okB (byteAt s i) := by
  obtain ⟨h1, h2, h3⟩ := h
  have hs := signAt_ok h0
  have hc := scanS_ok (base := 0) (frac := true) (signAt_le h0) (by omega)
  have he := scanE_ok (sep := true) hc.2.1
  intro i hi
  rcases Nat.lt_or_ge i (signAt s 0).2 with h | h
  · exact hs.2 i (Nat.zero_le _) h
  · rcases Nat.lt_or_ge i (scanS 0 true s (signAt s 0).2).p with h' | h'
    · exact hc.2.2 i h h'
    · exact he.2.2 i h' (by omega)
theorem ratNo_of_odd {s : ByteArray} (h : odd1 s) : ratNo s := by
  rcases Nat.eq_zero_or_pos s.size with h0 | h0
  · exact Or.inl h0
  · cases hst : stroke s with
    | none =>
      have hn := strokeF_none s.size 0 hst
      refine Or.inr (Or.inr ⟨h0, hst, fun hd => ?_⟩)
      have hb := decOk_bytes h0 hd
      rcases h with h | ⟨i, h1, h2, h3⟩ | ⟨_, h1⟩ | ⟨i, j, h1, h2, h3, h4⟩
      · omega
      · exact h2 (hb i h1)
      · rcases h1 with h1 | h1
        · exact hn 0 (by omega) (by omega) h1
        · exact hn (s.size - 1) (by omega) (by omega) h1
      · exact hn i (by omega) (by omega) h3
    | some i =>
      have hi := strokeF_some s.size 0 i hst
      refine Or.inr (Or.inl ⟨i, hst, fun hd => ?_⟩)
      obtain ⟨g1, g2⟩ := intOk_bytes hd.1
      obtain ⟨g3, g4⟩ := denOk_bytes hd.2
      have z1 : (s.extract 0 i).size = i := by simp; omega
      have z2 : (s.extract (i + 1) s.size).size = s.size - (i + 1) := by simp
      have key : ∀ k, k < s.size → k ≠ i → okB (byteAt s k) := fun k hk hne => by
        rcases Nat.lt_or_ge k i with h' | h'
        · have := g2 k (by omega)
          rwa [byteAt_ext s 0 i k (by omega) (by omega), Nat.zero_add] at this
        · have := g4 (k - (i + 1)) (by omega)
          rwa [byteAt_ext s (i + 1) s.size _ (Nat.le_refl _) (by omega), show i + 1 + (k - (i + 1)) = k by omega] at this
      have n47 : ∀ c, c = 47 → ¬ okB c := fun c hc => by unfold okB; omega
      rcases h with h | ⟨k, h1, h2, h3⟩ | ⟨_, h1⟩ | ⟨k, j, h1, h2, h3, h4⟩
      · omega
      · exact h2 (key k h1 (fun e => h3 (by rw [e]; exact hi.2.2)))
      · rcases h1 with h1 | h1
        · exact n47 _ h1 (key 0 h0 (by omega))
        · exact n47 _ h1 (key (s.size - 1) (by omega) (by omega))
      · by_cases hk : k = i
        · exact n47 _ h4 (key j h2 (by omega))
        · exact n47 _ h3 (key k (by omega) hk)
end Go.Proofs.YtmgfajamanakcaaGreatDoor
