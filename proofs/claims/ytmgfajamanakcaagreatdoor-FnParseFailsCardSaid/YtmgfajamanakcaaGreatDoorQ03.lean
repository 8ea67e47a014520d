/-
  scanSign over a strings.Reader. Conditions: as Rd.
  What nat.scan computes, in plain Lean: the prefix, the run over the digits, the end. Conditions: none; no walk in sight.
  append of one word to a number's slice: the law for the walk. Conditions: lengths below 2^40.
  copy of words: the law for the walk; nat.set. Conditions: lengths below 2^40.
-/
import Derived.Test.YtmgfajamanakcaaGreatDoorQ02
import Derived.ArgAppend
import Derived.Laws.IdiomCopy
namespace Go.Proofs.YtmgfajamanakcaaGreatDoor
open Go.RowKit
set_option maxRecDepth 100000
set_option linter.unusedVariables false
/-- Byte i of a text, as a number. -/
def byteAt (s : ByteArray) (i : Nat) : Int := (s.data.toList.getD i 0).toNat
theorem byteAt_eq (s : ByteArray) (i : Nat) (hi : i < s.size) : ((s[i]'hi).toNat : Int) = byteAt s i := by
  unfold byteAt
  rw [List.getD_eq_getElem?_getD, List.getElem?_eq_getElem (by simpa using hi)]
  rfl
theorem byteAt_range (s : ByteArray) (i : Nat) : 0 ≤ byteAt s i ∧ byteAt s i ≤ 255 := by
  unfold byteAt
  have := (s.data.toList.getD i 0).toNat_lt
  omega
theorem read_more (br : Nat) (s : ByteArray) (i : Nat) (c : Int) (w : World) (h : RdAt w br s i) (hi : i < s.size) (hs : s.size < 4611686018427387904) (hc : byteAt s i = c) :
    Calls Tryz.prog 113 #[.pointer (some ⟨br, 0, none⟩)] w (ReadPost w br s (i + 1) (.int .u8 c) .nilIface) := by
  rw [← hc, ← byteAt_eq s i hi]
  exact ReadByte_more br s i w h hi hs
theorem method_read (a : Addr) (w : World) : (method 442 169 (.pointer (some a)) "ReadByte").run Tryz.prog w = .ok (113, .pointer (some a)) w := by kernel_rfl
theorem method_unread (a : Addr) (w : World) : (method 442 169 (.pointer (some a)) "UnreadByte").run Tryz.prog w = .ok (316, .pointer (some a)) w := by kernel_rfl
/-- The sign ahead of a number, and where the number begins. -/
def signAt (s : ByteArray) (i : Nat) : Bool × Nat := if byteAt s i = 45 then (true, i + 1) else if byteAt s i = 43 then (false, i + 1) else (false, i)
set_option maxHeartbeats 1000000 in
theorem scanSign_more (br : Nat) (s : ByteArray) (i : Nat) (w : World) (h : RdAt w br s i) (hi : i < s.size) (hs : s.size < 4611686018427387904) :
    Calls Tryz.prog 127 #[.iface 169 (.pointer (some ⟨br, 0, none⟩))] w (ReadPost w br s (signAt s i).2 (.bool (signAt s i).1) .nilIface) := by
  have H := Lib.hid h
  clear h
  have hr := method_read
  have hu := method_unread
  obtain ⟨c, hc⟩ : ∃ c, byteAt s i = c := ⟨_, rfl⟩
  have Hc := Lib.hid hc
  have hcr := byteAt_range s i
  rw [hc] at hcr
  obtain ⟨hc0, hc1⟩ := hcr
  clear hc
  by_cases h45 : c = 45
  · have HS := Lib.hid (show signAt s i = (true, i + 1) by unfold signAt; rw [Hc.out, if_pos h45])
    have b1 : (c == 45) = true := by simp [h45]
    clear h45
    go_enter Tryz.func127, Tryz.ntmps127
    go_wp2_with fail
    refine (read_more br s i c _ H.out hi hs Hc.out).mono ?_
    rintro e w1 ⟨rfl, h1, h2⟩
    have H1 := Lib.hid (And.intro h1 h2)
    clear h1 h2
    go_wp2
    go_ret2
    exact ⟨by rw [HS.out]; rfl, by rw [HS.out]; exact H1.out.1, H1.out.2⟩
  · by_cases h43 : c = 43
    · have HS := Lib.hid (show signAt s i = (false, i + 1) by unfold signAt; rw [Hc.out, if_neg h45, if_pos h43])
      have b1 : (c == 45) = false := by simp [h45]
      have b2 : (c == 43) = true := by simp [h43]
      clear h45 h43
      go_enter Tryz.func127, Tryz.ntmps127
      go_wp2_with fail
      refine (read_more br s i c _ H.out hi hs Hc.out).mono ?_
      rintro e w1 ⟨rfl, h1, h2⟩
      have H1 := Lib.hid (And.intro h1 h2)
      clear h1 h2
      go_wp2
      go_ret2
      exact ⟨by rw [HS.out]; rfl, by rw [HS.out]; exact H1.out.1, H1.out.2⟩
    · have HS := Lib.hid (show signAt s i = (false, i) by unfold signAt; rw [Hc.out, if_neg h45, if_neg h43])
      have b1 : (c == 45) = false := by simp [h45]
      have b2 : (c == 43) = false := by simp [h43]
      clear h45 h43
      go_enter Tryz.func127, Tryz.ntmps127
      go_wp2_with fail
      refine (read_more br s i c _ H.out hi hs Hc.out).mono ?_
      rintro e w1 ⟨rfl, h1, h2⟩
      have H1 := Lib.hid (And.intro h1 h2)
      clear h1 h2
      go_wp2_with fail
      refine (UnreadByte_any br s i _ H1.out.1 (by omega)).mono ?_
      rintro e w2 ⟨rfl, h1, h2⟩
      have H2 := Lib.hid (And.intro h1 (H1.out.2.trans h2 (fun _ _ _ h => h)))
      clear h1 h2
      go_wp2
      go_ret2
      exact ⟨by rw [HS.out]; rfl, by rw [HS.out]; exact H2.out.1, H2.out.2⟩
set_option maxHeartbeats 1000000 in
theorem scanSign_end (br : Nat) (s : ByteArray) (i : Nat) (t : TypeId) (v : Value) (w : World) (h : RdAt w br s i) (hi : s.size ≤ i) (hs : i < 4611686018427387904) (hbr : br ≠ 0) (hE : w.cell? ⟨0, 0, none⟩ = some (.iface t v)) :
    Calls Tryz.prog 127 #[.iface 169 (.pointer (some ⟨br, 0, none⟩))] w (ReadPost w br s i (.bool false) (.iface t v)) := by
  have H := Lib.hid h
  have HE := Lib.hid hE
  clear h hE
  have hr := method_read
  go_enter Tryz.func127, Tryz.ntmps127
  go_wp2_with fail
  refine (ReadByte_end br s i _ _ H.out hi hs hbr HE.out).mono ?_
  rintro e w1 ⟨rfl, h1, h2⟩
  have H1 := Lib.hid (And.intro h1 h2)
  clear h1 h2
  go_wp2
  go_ret2
  exact ⟨rfl, H1.out.1, H1.out.2⟩
end Go.Proofs.YtmgfajamanakcaaGreatDoor
namespace Go.Proofs.YtmgfajamanakcaaGreatDoor
open Go.RowKit
set_option linter.unusedVariables false
/-- What the run carries: the kind of the byte before, whether a '_' stood wrongly, whether a point may come, the digits' number, the point's place, the value. -/
structure SS where
  prev : Int
  inval : Bool
  frac : Bool
  cnt : Nat
  dp : Int
  V : Int
/-- A byte as a digit (bases up to 36); 63: none. -/
def digOf (c : Int) : Int := if 48 ≤ c ∧ c ≤ 57 then c - 48 else if 97 ≤ c ∧ c ≤ 122 then c - 87 else if 65 ≤ c ∧ c ≤ 90 then c - 55 else 63
def stepS (b0 : Bool) (b : Int) (st : SS) (c : Int) : Option SS :=
  if c = 46 ∧ st.frac = true then some { st with frac := false, inval := st.inval || st.prev == 95, prev := 46, dp := st.cnt }
  else if c = 95 ∧ b0 = true then some { st with inval := st.inval || st.prev != 48, prev := 95 }
  else if digOf c < b then some { st with prev := 48, cnt := st.cnt + 1, V := st.V * b + digOf c }
  else none
def runF (b0 : Bool) (b : Int) (s : ByteArray) : Nat → Nat → SS → Nat × SS
  | 0, p, st => (p, st)
  | k + 1, p, st =>
    match stepS b0 b st (byteAt s p) with
    | none => (p, st)
    | some st' => runF b0 b s k (p + 1) st'
def runS (b0 : Bool) (b : Int) (s : ByteArray) (p : Nat) (st : SS) : Nat × SS := runF b0 b s (s.size - p) p st
theorem runS_end {b0 : Bool} {b : Int} {s : ByteArray} {p : Nat} {st : SS} (h : s.size ≤ p) : runS b0 b s p st = (p, st) := by
  unfold runS; rw [show s.size - p = 0 by omega]; rfl
theorem runS_stop {b0 : Bool} {b : Int} {s : ByteArray} {p : Nat} {st : SS} (h : p < s.size) (hs : stepS b0 b st (byteAt s p) = none) : runS b0 b s p st = (p, st) := by
  unfold runS; rw [show s.size - p = (s.size - (p + 1)) + 1 by omega]; simp only [runF, hs]
theorem runS_step {b0 : Bool} {b : Int} {s : ByteArray} {p : Nat} {st st' : SS} (h : p < s.size) (hs : stepS b0 b st (byteAt s p) = some st') : runS b0 b s p st = runS b0 b s (p + 1) st' := by
  unfold runS; rw [show s.size - p = (s.size - (p + 1)) + 1 by omega]; simp only [runF, hs]
/-- The prefix: the base, the prefix's byte or 0, where the digits begin, the kind of the byte before, the digits' number. -/
structure Pre where
  b : Int
  pf : Int
  p : Nat
  prev : Int
  cnt : Nat
def preS (base : Int) (frac : Bool) (s : ByteArray) (p : Nat) : Pre :=
  if base ≠ 0 then ⟨base, 0, p, 46, 0⟩
  else if p < s.size ∧ byteAt s p = 48 then
    if p + 1 < s.size then
      if byteAt s (p + 1) = 98 ∨ byteAt s (p + 1) = 66 then ⟨2, 98, p + 2, 48, 0⟩
      else if byteAt s (p + 1) = 111 ∨ byteAt s (p + 1) = 79 then ⟨8, 111, p + 2, 48, 0⟩
      else if byteAt s (p + 1) = 120 ∨ byteAt s (p + 1) = 88 then ⟨16, 120, p + 2, 48, 0⟩
      else if frac = true then ⟨10, 0, p + 1, 48, 1⟩ else ⟨8, 48, p + 1, 48, 0⟩
    else ⟨10, 0, p + 1, 48, 1⟩
  else ⟨10, 0, p, 46, 0⟩
def startS (base : Int) (frac : Bool) (s : ByteArray) (p : Nat) : SS := ⟨(preS base frac s p).prev, false, frac, (preS base frac s p).cnt, -1, 0⟩
def lastS (base : Int) (frac : Bool) (s : ByteArray) (p : Nat) : Nat × SS := runS (base == 0) (preS base frac s p).b s (preS base frac s p).p (startS base frac s p)
/-- The result: the value, the base, the digits' number (or less the places behind the point), the error (1: a '_' stood wrongly, 2: no digits), the place behind. -/
structure Scan where
  V : Int
  b : Int
  cnt : Int
  err : Nat
  p : Nat
def sepOf (st : SS) : Bool := st.inval || st.prev == 95
def scanS (base : Int) (frac : Bool) (s : ByteArray) (p : Nat) : Scan :=
  let pr := preS base frac s p
  let (q, st) := lastS base frac s p
  if st.cnt = 0 ∧ pr.pf = 48 then ⟨0, 10, 1, if sepOf st then 1 else 0, q⟩
  else ⟨st.V, pr.b, if 0 ≤ st.dp then st.dp - st.cnt else st.cnt, if st.cnt = 0 then 2 else if sepOf st then 1 else 0, q⟩
/-! ### What holds along the run -/
structure RunOK (b : Int) (s : ByteArray) (q : Nat) (st : SS) : Prop where
  hq : q ≤ s.size
  hc : st.cnt ≤ q
  hV0 : 0 ≤ st.V
  hV : st.V < b ^ st.cnt
  hdp : -1 ≤ st.dp ∧ st.dp ≤ st.cnt
theorem digOf_nonneg {c : Int} : 0 ≤ digOf c := by unfold digOf; split <;> (try split) <;> (try split) <;> omega
theorem RunOK.step {b0 : Bool} {b : Int} {s : ByteArray} {q : Nat} {st st' : SS} (h : RunOK b s q st) (hb : 2 ≤ b) (hq : q < s.size) (hs : stepS b0 b st (byteAt s q) = some st') : RunOK b s (q + 1) st' := by
  obtain ⟨h1, h2, h3, h4, h5⟩ := h
  unfold stepS at hs
  split at hs
  · injection hs with hs; subst hs; exact ⟨by omega, by simp only; omega, h3, h4, by simp only; omega⟩
  · split at hs
    · injection hs with hs; subst hs; exact ⟨by omega, by simp only; omega, h3, h4, h5⟩
    · split at hs
      · rename_i hd
        injection hs with hs; subst hs
        have h0 := digOf_nonneg (c := byteAt s q)
        refine ⟨by omega, by simp only; omega, ?_, ?_, by simp only; omega⟩
        · have := Int.mul_nonneg h3 (show (0:Int) ≤ b by omega)
          simp only; omega
        · simp only
          rw [Int.pow_succ]
          have := Int.mul_le_mul_of_nonneg_right (show st.V ≤ b ^ st.cnt - 1 by omega) (show (0:Int) ≤ b by omega)
          rw [Int.sub_mul] at this
          omega
      · cases hs
end Go.Proofs.YtmgfajamanakcaaGreatDoor
namespace Go.Proofs.YtmgfajamanakcaaGreatDoor
open Go.RowKit
set_option maxRecDepth 100000
set_option linter.unusedVariables false
/-- What an append of one word leaves. -/
def AppRes (W : World) (a : Option Addr) (n c : Nat) (X : Nat → Int) (x : Int) (a' : Option Addr) (c' : Nat) (W' : World) : Prop :=
  n + 1 ≤ c' ∧ ZOK W' a' c' ∧ Rd W' a' (n + 1) (upd X n x) ∧ Home W a c a' c' ∧ Chg (zAddr a c) W W'
/-- The words X 0 .. X (n-1) as values. -/
def wordVals (X : Nat → Int) (n : Nat) : List Value := (List.range n).map fun i => .int .u64 (X i)
theorem wordVals_length (X : Nat → Int) (n : Nat) : (wordVals X n).length = n := by simp [wordVals]
theorem wordVals_get (X : Nat → Int) (n j : Nat) (v : Value) (h : (wordVals X n)[j]? = some v) : j < n ∧ v = .int .u64 (X j) := by
  unfold wordVals at h
  rw [List.getElem?_map] at h
  by_cases hj : j < n
  · rw [List.getElem?_range hj] at h
    exact ⟨hj, by simpa using h.symm⟩
  · rw [List.getElem?_eq_none (by simpa using hj)] at h; cases h
theorem zeroCells_word (k : Nat) : Builtin.zeroCells #[.int .u64 0] k = Array.replicate k (.int .u64 0) := by
  apply Array.ext
  · simp [Builtin.zeroCells]
  · intro i h1 h2
    simp [Builtin.zeroCells, Nat.mod_one]
/-- A block whose cells are words, that begins with the words of L. -/
theorem new_words (w : World) (X : Nat → Int) (n k : Nat) :
    Words (w.alloc (.cells ((wordVals X n).toArray ++ Array.replicate k (.int .u64 0)) 153)) w.heap.size 0 n X ∧ Room (w.alloc (.cells ((wordVals X n).toArray ++ Array.replicate k (.int .u64 0)) 153)) w.heap.size 0 (n + k) := by
  have hget : ∀ i, i < n → ((wordVals X n).toArray ++ Array.replicate k (Value.int .u64 0))[i]? = some (.int .u64 (X i)) := fun i hi => by
    rw [Array.getElem?_append_left (by simpa [wordVals] using hi)]
    simp [wordVals, hi]
  have hget2 : ∀ i, n ≤ i → i < n + k → ((wordVals X n).toArray ++ Array.replicate k (Value.int .u64 0))[i]? = some (.int .u64 0) := fun i h1 h2 => by
    rw [Array.getElem?_append_right (by simpa [wordVals] using h1)]
    simp only [List.size_toArray, wordVals_length]
    rw [Array.getElem?_replicate, if_pos (by omega)]
  refine ⟨fun i hi => ?_, fun i hi => ⟨?_, frozen?_alloc_new w _ _ _⟩⟩
  · rw [Nat.zero_add]; exact cell?_alloc_new w _ _ _ _ (hget i hi)
  · rw [Nat.zero_add]
    by_cases h : i < n
    · exact ⟨_, cell?_alloc_new w _ _ _ _ (hget i h)⟩
    · exact ⟨_, cell?_alloc_new w _ _ _ _ (hget2 i (by omega) hi)⟩
theorem size_push (W : World) (o : Obj) : W.drew.heap.size < (W.drew.alloc o).heap.size := by
  show W.heap.size < (W.heap.push o).size
  simp
theorem grownCap_ge (w : World) (need old : Nat) (e : TypeId) (h : need < 9223372036854775808) : need ≤ grownCap w need old e ∧ grownCap w need old e < 9223372036854775808 := by
  have e1 : grownCap w need old e = need + (w.tape w.drawn (.appendCap need old e)) % (2 ^ 63 - need) := rfl
  rw [e1]
  have := Nat.mod_lt (w.tape w.drawn (.appendCap need old e)) (show 0 < 2 ^ 63 - need by omega)
  omega
theorem chg_drew_alloc (W : World) (o : Obj) (Z : Zone) : Chg Z W (W.drew.alloc o) := ((Chg.refl Z W).drew).alloc o
theorem run_append_word (a : Option Addr) (n c : Nat) (X : Nat → Int) (x : Int) (W : World) (hz : ZOK W a c) (hr : Rd W a n X) (hnc : n ≤ c) (hn : n < 1099511627776) (ad : Addr) (hx : W.cell? ad = some (.int .u64 x)) (ty : TypeId) :
    ∃ a' c' W', (Builtin.append_ #[120, 120] ty #[.slice a n c, .slice (some ad) 1 1]).run Tryz.prog W = .ok (.slice a' (n + 1) c') W' ∧ AppRes W a n c X x a' c' W' := by
  obtain ⟨i0, hi, hz0, hz1, hz2⟩ := info_parts info153
  have hnews : ∀ j v, [Value.int .u64 x][j]? = some v → W.cell? (ad.add j) = some v := fun j v h => by
    cases j with
    | zero => simp at h; subst h; simpa [Addr.add] using hx
    | succ j => simp at h
  have hupd : ∀ i, i < n → X i = upd X n x i := fun i hi => (upd_other X x (by omega)).symm
  rcases hz with ⟨rfl, rfl⟩ | ⟨b, o, rfl, hb, hroom, hcap⟩
  · obtain rfl : n = 0 := by omega
    have hrun := run_append_nil (P := Tryz.prog) W 120 ty 153 i0 (.int .u64 0) Tryz.underlying120 hi hz0 ad 1 1 [.int .u64 x] (by rw [hz1]; rfl) hnews (by omega) (by omega) (by rw [hz2]; omega)
    have hg := grownCap_ge W 1 0 153 (by omega)
    have hw := new_words W.drew (fun _ => x) 1 (grownCap W 1 0 153 - 1)
    rw [show ((Value.int .u64 0).cells) = #[Value.int .u64 0] from rfl, zeroCells_word] at hrun
    refine ⟨_, _, _, hrun, by omega, Or.inr ⟨_, _, rfl, PB.new W.drew _ _, ?_, hg.2⟩, Or.inr ⟨_, _, rfl, ?_⟩, Or.inr ⟨_, _, rfl, Nat.le_refl _⟩, chg_drew_alloc _ _ _⟩
    · have := hw.2
      rwa [show 1 + (grownCap W 1 0 153 - 1) = grownCap W 1 0 153 by omega] at this
    · exact hw.1.congr (fun i hi => by obtain rfl : i = 0 := by omega
                                       exact (upd_same X 0 x).symm)
  · have hX : n = 0 ∨ Words W b o n X := by
      rcases hr with h | ⟨b', o', e, hw⟩
      · exact Or.inl h
      · injection e with e; injection e with e1 e2; subst e1; subst e2; exact Or.inr hw
    have hX' : Words W b o n X := by
      rcases hX with h | h
      · intro i hi; omega
      · exact h
    by_cases hfit : n + 1 ≤ c
    · have hrun := run_append_room_cells (P := Tryz.prog) W 120 ty 153 i0 Tryz.underlying120 hi b o n c ad 1 1 [.int .u64 x] (by rw [hz1]; rfl) hnews (fun u hu => by simp at hu; subst hu; rfl) hfit
        (fun j hj => by
          obtain rfl : j = 0 := by simp at hj; exact hj
          rw [hz1, Nat.mul_one, Nat.add_zero]
          obtain ⟨⟨y, hy⟩, _⟩ := hroom n (by omega)
          rw [hy]; rfl)
        (fun j hj => by
          obtain rfl : j = 0 := by simp at hj; exact hj
          rw [hz1, Nat.mul_one, Nat.add_zero]
          exact (hroom n (by omega)).2)
      rw [hz1, Nat.mul_one] at hrun
      have hwd : W.setCells b (o + n) [.int .u64 x] = W.setCell ⟨b, o + n, none⟩ (.int .u64 x) := rfl
      rw [hwd] at hrun
      refine ⟨_, _, _, hrun, hfit, ?_, Or.inr ⟨b, o, rfl, hX'.snoc ?_⟩, Or.inl ⟨rfl, rfl⟩, (Chg.refl _ _).setCell b (o + n) _ (fun _ => ⟨o, rfl, by omega, by omega⟩)⟩
      · exact ZOK.setInt (Or.inr ⟨b, o, rfl, hb, hroom, hcap⟩) b (o + n) x
      · obtain ⟨⟨y, hy⟩, _⟩ := hroom n (by omega)
        rw [hy]; rfl
    · have holds : ∀ j v, (wordVals X n)[j]? = some v → W.cell? ((⟨b, o, none⟩ : Addr).add j) = some v := fun j v h => by
        obtain ⟨hj, rfl⟩ := wordVals_get X n j v h
        have := hX' j hj
        by_cases h0 : j = 0
        · subst h0; simpa [Addr.add] using this
        · simpa [Addr.add, h0] using this
      have hrun := run_append_grow (P := Tryz.prog) W 120 ty 153 i0 (.int .u64 0) Tryz.underlying120 hi hz0 ⟨b, o, none⟩ n c (wordVals X n) (by rw [wordVals_length, hz1, Nat.mul_one]) holds ad 1 1 [.int .u64 x] (by rw [hz1]; rfl) hnews (by omega) (by omega)
        (by rw [hz2]; exact growslice_fits (by omega) (by omega))
      have hg := grownCap_ge W (n + 1) c 153 (by omega)
      have hcat : (wordVals X n).toArray ++ [Value.int .u64 x].toArray = (wordVals (upd X n x) (n + 1)).toArray := by
        unfold wordVals
        rw [List.range_succ, List.map_append]
        simp only [List.map_cons, List.map_nil, upd_same]
        rw [← List.append_toArray]
        congr 2
        apply List.map_congr_left
        intro i hi'
        rw [upd_other X x (by have := List.mem_range.1 hi'; omega)]
      rw [show ((Value.int .u64 0).cells) = #[Value.int .u64 0] from rfl, zeroCells_word, hcat] at hrun
      have hw := new_words W.drew (upd X n x) (n + 1) (grownCap W (n + 1) c 153 - (n + 1))
      refine ⟨_, _, _, hrun, by omega, Or.inr ⟨_, _, rfl, PB.new W.drew _ _, ?_, hg.2⟩, Or.inr ⟨_, _, rfl, hw.1⟩, Or.inr ⟨_, _, rfl, Nat.le_refl _⟩, chg_drew_alloc _ _ _⟩
      have := hw.2
      rwa [show n + 1 + (grownCap W (n + 1) c 153 - (n + 1)) = grownCap W (n + 1) c 153 by omega] at this
/-- The walk's law: an append of one word. -/
theorem wpList_append_word {ops : Array Oper} {rest : List Oper} {o : Oper} {act : Act} {w : World} {Q : Exit → Act → World → Prop} (hgd : o.guard = none) (s x : Operand)
    (ho : o.op = .call { callee := .builtin .append, args := #[s, x], argTypes := #[120, 120] })
    (a : Option Addr) (n c : Nat) (X : Nat → Int) (y : Int) (ad : Addr) (hs : act.eval s = .slice a n c) (hx : act.eval x = .slice (some ad) 1 1)
    (hz : ZOK w a c) (hr : Rd w a n X) (hnc : n ≤ c) (hn : n < 1099511627776) (hy : w.cell? ad = some (.int .u64 y))
    (h : ∀ a' c' w', AppRes w a n c X y a' c' w' → wpList Tryz.prog ops Q rest (act.put o.dst (.slice a' (n + 1) c')) w') : wpList Tryz.prog ops Q (o :: rest) act w :=
  wpList_plain hgd fun K hK => by
    obtain ⟨a', c', w', hrun, h2⟩ := run_append_word a n c X y w hz hr hnc hn ad hy o.type
    unfold Oper.wp execOp
    simp only [ho, resolve, invoke, builtin, Sem.run_bind, Sem.run_pure, Result.andThen_ok, List.map_toArray, List.map_cons, List.map_nil, hs, hx, hrun]
    exact hK _ _ (h a' c' w' h2)
end Go.Proofs.YtmgfajamanakcaaGreatDoor
namespace Go.Proofs.YtmgfajamanakcaaGreatDoor
open Go.RowKit
set_option maxRecDepth 100000
set_option linter.unusedVariables false
theorem chg_setCells (b : Nat) : ∀ (vs : List Value) (o : Nat) (w : World), Chg (zRow b o vs.length) w (w.setCells b o vs)
  | [], _, w => Chg.refl _ w
  | v :: r, o, w => by
    have h1 : Chg (zRow b o (v :: r).length) w (w.setCell ⟨b, o, none⟩ v) := (Chg.refl _ _).setCell b o v (fun _ => ⟨rfl, Nat.le_refl _, by simp⟩)
    exact h1.trans (chg_setCells b r (o + 1) _) (fun b' o' _ ⟨e1, e2, e3⟩ => ⟨e1, by omega, by simp; omega⟩)
theorem words_setCells (b o n : Nat) (X : Nat → Int) (w : World) (h : ∀ j, j < n → (w.cell? ⟨b, o + j, none⟩).isSome = true) : Words (w.setCells b o (wordVals X n)) b o n X := fun i hi => by
  have := World.cell?_setCells_in b (wordVals X n) o w (fun j hj => h j (by rwa [wordVals_length] at hj)) i (by rw [wordVals_length]; exact hi)
  rw [this]
  simp [wordVals]
theorem room_setCells (b o n : Nat) (X : Nat → Int) (b' o' m : Nat) (w : World) (h : Room w b' o' m) : Room (w.setCells b o (wordVals X n)) b' o' m := by
  have key : ∀ (l : List Value) (o : Nat) (w : World), (∀ v ∈ l, ∃ x : Int, v = .int .u64 x) → Room w b' o' m → Room (w.setCells b o l) b' o' m := by
    intro l
    induction l with
    | nil => intro o w _ h; exact h
    | cons v r ih =>
      intro o w hv h
      obtain ⟨x, rfl⟩ := hv v (by simp)
      exact ih (o + 1) _ (fun u hu => hv u (by simp [hu])) (h.setInt b o x)
  refine key _ _ _ (fun v hv => ?_) h
  simp only [wordVals, List.mem_map] at hv
  obtain ⟨i, _, rfl⟩ := hv
  exact ⟨_, rfl⟩
theorem size153 : (Tryz.prog.info? 153).map (·.size) = some 1 := by kernel_rfl
/-- A copy of words: all are read ahead of the first one written. -/
theorem run_copy_word (t1 t2 ty : TypeId) (hu : Tryz.prog.underlying t1 = some (.slice 153)) (b o nd cd : Nat) (sa : Option Addr) (ns cs n : Nat) (X : Nat → Int) (W : World) (hn : n = Nat.min ns nd) (hz : Room W b o n) (hr : Rd W sa n X) :
    ∃ W', (Builtin.copy_ #[t1, t2] ty #[.slice (some ⟨b, o, none⟩) nd cd, .slice sa ns cs]).run Tryz.prog W = .ok (.int .i64 n) W' ∧ Chg (zRow b o n) W W' ∧ Words W' b o n X ∧ (∀ b' o' m, Room W b' o' m → Room W' b' o' m) := by
  rcases hr with rfl | ⟨bs, os, rfl, hw⟩
  · exact ⟨W, run_copy_none W t1 t2 ty 153 _ sa nd cd ns cs hu size153 hn.symm, Chg.refl _ _, fun i hi => by omega, fun _ _ _ h => h⟩
  · have hrun := run_copy_cells (P := Tryz.prog) W t1 t2 ty 153 b o nd cd ⟨bs, os, none⟩ ns cs (wordVals X n) hu size153 (by rw [wordVals_length]; exact hn)
      (fun j v h => by
        obtain ⟨hj, rfl⟩ := wordVals_get X n j v h
        have := hw j hj
        by_cases h0 : j = 0
        · subst h0; simpa [Addr.add] using this
        · simpa [Addr.add, h0] using this)
      (fun j hj => by
        obtain ⟨⟨y, hy⟩, _⟩ := hz j (by rwa [wordVals_length] at hj)
        rw [hy]; rfl)
      (fun j hj => (hz j (by rwa [wordVals_length] at hj)).2)
      (fun v hv => by
        simp only [wordVals, List.mem_map] at hv
        obtain ⟨i, _, rfl⟩ := hv
        rfl)
    rw [wordVals_length] at hrun
    refine ⟨_, hrun, ?_, words_setCells b o n X W (fun j hj => ?_), fun _ _ _ h => room_setCells b o n X _ _ _ _ h⟩
    · have := chg_setCells b (wordVals X n) o W
      rwa [wordVals_length] at this
    · obtain ⟨⟨y, hy⟩, _⟩ := hz j hj
      rw [hy]; rfl
/-- The walk's law: a copy of words. -/
theorem wpList_copy_word {ops : Array Oper} {rest : List Oper} {op : Oper} {act : Act} {w : World} {Q : Exit → Act → World → Prop} (hgd : op.guard = none) (d s : Operand) (t1 t2 : TypeId)
    (ho : op.op = .call { callee := .builtin .copy, args := #[d, s], argTypes := #[t1, t2] }) (hu : Tryz.prog.underlying t1 = some (.slice 153))
    (b o nd cd : Nat) (sa : Option Addr) (ns cs n : Nat) (X : Nat → Int) (hd : act.eval d = .slice (some ⟨b, o, none⟩) nd cd) (hs : act.eval s = .slice sa ns cs)
    (hn : n = Nat.min ns nd) (hz : Room w b o n) (hr : Rd w sa n X)
    (h : ∀ w', Chg (zRow b o n) w w' ∧ Words w' b o n X ∧ (∀ b' o' m, Room w b' o' m → Room w' b' o' m) → wpList Tryz.prog ops Q rest (act.put op.dst (.int .i64 n)) w') : wpList Tryz.prog ops Q (op :: rest) act w :=
  wpList_plain hgd fun K hK => by
    obtain ⟨w', hrun, h2⟩ := run_copy_word t1 t2 op.type hu b o nd cd sa ns cs n X w hn hz hr
    unfold Oper.wp execOp
    simp only [ho, resolve, invoke, builtin, Sem.run_bind, Sem.run_pure, Result.andThen_ok, List.map_toArray, List.map_cons, List.map_nil, hd, hs, hrun]
    exact hK _ _ (h w' h2)
/-- Nothing to copy. -/
theorem wpList_copy_zero {ops : Array Oper} {rest : List Oper} {op : Oper} {act : Act} {w : World} {Q : Exit → Act → World → Prop} (hgd : op.guard = none) (d s : Operand) (t1 t2 : TypeId)
    (ho : op.op = .call { callee := .builtin .copy, args := #[d, s], argTypes := #[t1, t2] }) (hu : Tryz.prog.underlying t1 = some (.slice 153))
    (da : Option Addr) (nd cd : Nat) (sa : Option Addr) (ns cs : Nat) (hd : act.eval d = .slice da nd cd) (hs : act.eval s = .slice sa ns cs)
    (hn : Nat.min ns nd = 0) (h : wpList Tryz.prog ops Q rest (act.put op.dst (.int .i64 0)) w) : wpList Tryz.prog ops Q (op :: rest) act w :=
  wpList_plain hgd fun K hK => by
    have hrun := run_copy_none (P := Tryz.prog) w t1 t2 op.type 153 da sa nd cd ns cs hu size153 hn
    unfold Oper.wp execOp
    simp only [ho, resolve, invoke, builtin, Sem.run_bind, Sem.run_pure, Result.andThen_ok, List.map_toArray, List.map_cons, List.map_nil, hd, hs, hrun]
    exact hK _ _ h
def SetRes (w : World) (az : Option Addr) (zc n : Nat) (X : Nat → Int) (e : Ending) (w' : World) : Prop :=
  ∃ a c, e = .returned (.slice a n c) ∧ n ≤ c ∧ ZOK w' a c ∧ Rd w' a n X ∧ Home w az zc a c ∧ Chg (zAddr az zc) w w'
set_option maxHeartbeats 2000000 in
theorem set_any (az ax : Option Addr) (zl zc xn xc : Nat) (X : Nat → Int) (w : World) (hz : ZOK w az zc) (hx : Rd w ax xn X) (hxc : xn ≤ xc) (hxn : xn < 1099511627776) :
    Calls Tryz.prog 77 #[.slice az zl zc, .slice ax xn xc] w (SetRes w az zc xn X) := by
  have Hz := Lib.hid hz
  have Hx := Lib.hid hx
  clear hz hx
  go_enter Tryz.func77, Tryz.ntmps77
  go_wp2_with fail
  refine (make_any az zl zc xn _ Hz.out (by omega)).mono ?_
  rintro e w1 ⟨a, c, rfl, h1, h2, h3, h4⟩
  have H := Lib.hid (And.intro h1 (And.intro h2 (And.intro h3 h4)))
  clear h1 h2 h3 h4
  by_cases h0 : xn = 0
  · subst h0
    go_wp2_with (with_reducible refine wpList_copy_zero rfl (.tmp 9) (.tmp 10) 120 120 rfl Tryz.underlying120 a 0 c ax 0 xc rfl rfl rfl ?_)
    go_ret
    exact ⟨a, c, rfl, Nat.zero_le _, H.out.2.1, Or.inl rfl, H.out.2.2.1, H.out.2.2.2.mono (fun _ _ _ h => h.elim)⟩
  · obtain ⟨b, o, rfl, hb, hroom⟩ := H.out.2.1.room (by have := H.out.1; omega)
    have Hx1 : Hid (Rd w1 ax xn X) := by
      rcases Hx.out with h | ⟨bx, ox, e, hw⟩
      · exact Or.inl h
      · exact Or.inr ⟨bx, ox, e, hw.chg H.out.2.2.2 (fun _ _ h => h.elim)⟩
    have Hroom := Lib.hid hroom
    clear hroom
    go_wp2_with (with_reducible refine wpList_copy_word rfl (.tmp 9) (.tmp 10) 120 120 rfl Tryz.underlying120 b o xn c ax xn xc xn X rfl rfl (Nat.min_self xn).symm (Hroom.out.le (by have := H.out.1; omega)) Hx1.out ?_; rintro w2 hw2; have HW := Lib.hid hw2; clear hw2)
    go_ret
    obtain ⟨q1, q2, q3⟩ := HW.out
    refine ⟨some ⟨b, o, none⟩, c, rfl, H.out.1, Or.inr ⟨b, o, rfl, hb.chg q1, q3 _ _ _ Hroom.out, H.out.2.1.cap⟩, Or.inr ⟨b, o, rfl, q2⟩, H.out.2.2.1, ?_⟩
    exact (H.out.2.2.2.mono (Z' := zAddr az zc) (fun _ _ _ h => h.elim)).trans q1 (fun bb oo hbb ⟨e1, e2, e3⟩ => H.out.2.2.1.zone bb oo hbb ⟨o, by rw [e1], e2, by have := H.out.1; omega⟩)
end Go.Proofs.YtmgfajamanakcaaGreatDoor
