/- Part of the proof of FnParse: what the functions that it reaches do, as contracts. Conditions: those that each theorem names. -/
import Derived.Test.YtmgfajamanakcaaGreatDoorR16
import Derived.Deep.LoopGhost
import Derived.Outline
import Derived.Deep.QuietTactic
import Derived.Test.YtmgfajamanakcaaGreatDoorR09
import Derived.Lib.AppendZerosOnto
import Derived.Test.YtmgfajamanakcaaGreatDoorR06
import Derived.Defers
import Derived.Laws.Pointers
import Derived.Deep.DeepCutAuto
import Derived.Deep.CutBlock
import Derived.Deep.RegionHeld3
import Derived.StillTailTactics
namespace Go.Proofs.YtmgfajamanakcaaGreatDoor
set_option linter.unusedVariables false
set_option linter.unusedSimpArgs false
open Go.RowKit
set_option maxRecDepth 100000
def WordsPost (w : World) (n : Nat) (X : Nat → Int) (e : Ending) (w' : World) : Prop :=
  ∃ a c, e = .returned (.slice a n c) ∧ n ≤ c ∧ ZOK w' a c ∧ Fresh w a ∧ Rd w' a n X ∧ Chg zNone w w'
def WordsRel (w : World) (n : Nat) (X : Nat → Int) (k : Nat) (s3 s9 : Value) (wc : World) : Prop :=
  ∃ (i : Nat) (a : Option Addr) (c : Nat), s3 = .slice a i c ∧ s9 = .int .i64 (i : Int) ∧ i + k = n ∧ Hid (i ≤ c ∧ ZOK wc a c ∧ Fresh w a ∧ Rd wc a i X ∧ Chg zNone w wc)
theorem fresh_home {w w1 : World} {a a' : Option Addr} {c c' : Nat} (h : Fresh w a) (hh : Home w1 a c a' c') (hw : w.heap.size ≤ w1.heap.size) : Fresh w a' := by
  rcases hh with ⟨rfl, _⟩ | ⟨b, o, e, hb⟩
  · exact h
  · exact Or.inr ⟨b, o, e, by omega⟩
set_option maxHeartbeats 2000000 in
theorem wordsOf_any (zb zo : Nat) (neg : Bool) (a : Option Addr) (n c : Nat) (X : Nat → Int) (w : World) (hz : IntC w zb zo neg a n c) (hr : Rd w a n X) (hn : n < 549755813888) :
    Calls Tryz.prog 84 #[.pointer (some ⟨zb, zo, none⟩)] w (WordsPost w n X) := by
  have HB := Lib.hid (Bits_any zb zo neg a n c w hz)
  have HR := Lib.hid hr
  clear hz hr
  go_enter Tryz.func84, Tryz.ntmps84
  go_wp2_with fail
  refine HB.out.mono ?_
  rintro e w0 ⟨rfl, rfl⟩
  go_wp2_with fail
  go_loopg [3, 5, 9] n (fun k s3 s5 s9 wc => WordsRel w n X k s3 s9 wc)
  case atStart => exact ⟨0, none, 0, rfl, rfl, by omega, Nat.le_refl _, Or.inl ⟨rfl, rfl⟩, Or.inl rfl, Or.inl rfl, Chg.refl _ _⟩
  case round =>
    obtain ⟨i, a', c', rfl, rfl, hk, H⟩ := hrel
    by_cases hi : i < n
    · have h1 : decide ((i : Int) < (n : Int)) = true := by simp; omega
      have h2 : (0 : Int) ≤ (i : Int) := by omega
      have h3 : (i : Int) < (n : Int) := by omega
      obtain ⟨x, hx⟩ : ∃ x, X i = x := ⟨_, rfl⟩
      obtain ⟨b, o, rfl, hw⟩ : ∃ b o, a = some ⟨b, o, none⟩ ∧ Words w b o n X := by
        rcases HR.out with h | h
        · omega
        · exact h
      have hc := H.out.2.2.2.2.cell (hw i hi) (fun h => h)
      rw [hx] at hc
      have Hx := Lib.hid hx
      clear hx hw
      have kal : Chg zNone wr (wr.alloc (.cells #[.int .u64 x] 22)) := (Chg.refl _ _).alloc _
      have HX := Lib.hid (show ZOK (wr.alloc (.cells #[.int .u64 x] 22)) a' c' ∧ Rd (wr.alloc (.cells #[.int .u64 x] 22)) a' i X ∧ (wr.alloc (.cells #[.int .u64 x] 22)).cell? ⟨wr.heap.size, 0, none⟩ = some (.int .u64 x) from
        ⟨H.out.2.1.chg kal (fun _ _ _ h => h), rd_far H.out.2.2.2.1 kal (fun _ _ _ _ _ h => h), cell?_alloc_new wr #[.int .u64 x] 22 0 (.int .u64 x) rfl⟩)
      have HK := Lib.hid (H.out.2.2.2.2.trans kal (fun _ _ _ h => h))
      have x3 := H.out.1
      have x4 : i < 1099511627776 := by omega
      clear kal
      go_wp2_with (refine wpList_append_uint rfl (.tmp 13) (.tmp 15) rfl a' i c' X _ _ rfl rfl HX.out.1 HX.out.2.1 x3 x4 HX.out.2.2 ?_; rintro a2 c2 w2 h2; have H2 := Lib.hid h2; clear h2)
      go_roundg (gk - 1)
      case measure => omega
      case rel =>
        obtain ⟨g1, g2, g3, g4, g5⟩ := H2.out
        refine ⟨i + 1, a2, c2, rfl, by go_num, by omega, g1, g2, fresh_home H.out.2.2.1 g4 HK.out.size, ?_, HK.out.trans g5 ?_⟩
        · rcases g3 with h | ⟨b', o', e, hw⟩
          · omega
          · refine Or.inr ⟨b', o', e, hw.congr (fun j hj => ?_)⟩
            by_cases hji : j = i
            · subst hji; rw [upd_same]; exact Hx.out.symm
            · exact upd_other X x hji
        · rintro b' o' hb ⟨p, e, _⟩
          exact (fresh_far H.out.2.2.1 hb e rfl).elim
    · have h1 : decide ((i : Int) < (n : Int)) = false := by simp; omega
      obtain rfl : i = n := by omega
      go_wp2
      go_ret
      exact ⟨a', c', rfl, H.out⟩
theorem getStack_any (w : World) : Calls Tryz.prog 100 #[] w fun e w' => e = .returned (.pointer (some ⟨w.heap.size, 0, none⟩)) ∧ w' = w.alloc (.cells #[.pointer none] 208) := by
  go_enter Tryz.func100, Tryz.ntmps100
  go_wp2
  go_ret
  exact ⟨rfl, rfl⟩
theorem NatIn.drewN {w : World} {a : Option Addr} {n c : Nat} {X : Nat → Int} (h : NatIn w a n c X) (k : Nat) : NatIn (w.drewN k) a n c X := ⟨h.rd, h.wf, h.le, h.small, h.aok⟩
theorem room_zeros (w : World) (X : Nat → Int) (c m r : Nat) : Room (w.alloc (.cells ((wordVals X c).toArray ++ Builtin.zeroCells #[.int .u64 0] m ++ Builtin.zeroCells #[.int .u64 0] r) 153)) w.heap.size 0 (c + m + r) := by
  have e : (wordVals X c).toArray ++ Builtin.zeroCells #[.int .u64 0] m ++ Builtin.zeroCells #[.int .u64 0] r = (wordVals X c).toArray ++ Array.replicate (m + r) (.int .u64 0) := by
    rw [zeroCells_word, zeroCells_word, Array.append_assoc]
    congr 1
    apply Array.ext
    · simp
    · intro i h1 h2
      simp
  rw [e]
  have := (new_words w X c (m + r)).2
  rwa [← Nat.add_assoc] at this
def GrowPost (w : World) (a : Option Addr) (n c k : Nat) (e : Ending) (w' : World) : Prop :=
  ∃ a' c', e = .returned (.slice a' n c') ∧ n + k ≤ c' ∧ ZOK w' a' c' ∧ Home w a c a' c' ∧ Chg zNone w w'
theorem grow_new (w : World) (X : Nat → Int) (a : Option Addr) (n c k : Nat) (hc : c < n + k) (hn : n ≤ c) (hk : n + k < 1099511627776) :
    n + k ≤ grownCap w (n + k) c 153 ∧ ZOK (w.drew.alloc (.cells ((wordVals X c).toArray ++ Builtin.zeroCells #[.int .u64 0] (n + k - c) ++ Builtin.zeroCells #[.int .u64 0] (grownCap w (n + k) c 153 - (n + k))) 153)) (some ⟨w.heap.size, 0, none⟩) (grownCap w (n + k) c 153) ∧
    Home w a c (some ⟨w.heap.size, 0, none⟩) (grownCap w (n + k) c 153) := by
  have hg := grownCap_ge w (n + k) c 153 (by omega)
  refine ⟨hg.1, Or.inr ⟨_, _, rfl, PB.new w.drew _ _, ?_, hg.2⟩, Or.inr ⟨_, _, rfl, Nat.le_refl _⟩⟩
  have := room_zeros w.drew X c (n + k - c) (grownCap w (n + k) c 153 - (n + k))
  rwa [show c + (n + k - c) + (grownCap w (n + k) c 153 - (n + k)) = grownCap w (n + k) c 153 by omega] at this
theorem first_words {w : World} {b o c : Nat} {X : Nat → Int} (hw : Words w b o c X) : (Builtin.firstCells 1 c (.slice (some ⟨b, o, none⟩) c c)).run Tryz.prog w = .ok (wordVals X c).toArray w := by
  refine run_firstCells_some w 1 c ⟨b, o, none⟩ c c (wordVals X c) (by rw [wordVals_length, Nat.mul_one]) (fun j v h => ?_)
  obtain ⟨hj, rfl⟩ := wordVals_get X c j v h
  have := hw j hj
  by_cases h0 : j = 0
  · subst h0; simpa [Addr.add] using this
  · simpa [Addr.add, h0] using this
theorem run_zeros (t : TypeId) (ty : TypeId) (hu : Tryz.prog.underlying t = some (.slice 153)) (a : Option Addr) (n c k : Nat) (w : World) (hz : ZOK w a c) (hn : n ≤ c) (hf : c < n + k) (hk : n + k < 1099511627776) :
    ∃ a' c' w', (Builtin.append_ #[t, 3] ty #[.slice a c c, .int .i64 ((n + k - c : Nat) : Int)]).run Tryz.prog w = .ok (.slice a' (n + k) c') w' ∧ n + k ≤ c' ∧ ZOK w' a' c' ∧ Home w a c a' c' ∧ Chg zNone w w' := by
  obtain ⟨i0, hi, hz0, hz1, hz2⟩ := info_parts info153
  rcases hz with ⟨rfl, rfl⟩ | ⟨b, o, rfl, hb, hroom, hcap⟩
  · obtain rfl : n = 0 := by omega
    have h := Lib.run_append_nil_zeros (P := Tryz.prog) w t 3 ty 153 i0 (.int .u64 0) .i64 .i64 hu Tryz.underlying3 hi hz0 k (by omega) (by omega) (by omega) (by rw [hz2]; omega)
    obtain ⟨g1, g2, g3⟩ := grow_new w (fun _ => 0) none 0 0 k (by omega) (by omega) (by omega)
    simp only [Nat.zero_add, Nat.sub_zero] at g1 g2 g3 ⊢
    have e : (wordVals (fun _ => 0) 0).toArray = #[] := rfl
    rw [e, Array.empty_append] at g2
    rw [show ((Value.int .u64 0).cells) = #[Value.int .u64 0] from rfl] at h
    exact ⟨_, _, _, h, g1, g2, g3, ((Chg.refl _ _).drew).alloc _⟩
  · obtain ⟨X, hX⟩ := hroom.words
    have h := Lib.run_append_grow_zeros (P := Tryz.prog) w t 3 ty 153 i0 (.int .u64 0) .i64 .i64 hu Tryz.underlying3 hi hz0 (some ⟨b, o, none⟩) c c (wordVals X c) (by rw [hz1]; exact first_words (w := w.drew) hX) (n + k - c) (by omega) (by omega) (by omega) (by omega) (by rw [hz2]; omega)
      (by rw [hz2]; exact growslice_fits (by omega) (by omega))
    rw [show c + (n + k - c) = n + k by omega, show ((Value.int .u64 0).cells) = #[Value.int .u64 0] from rfl] at h
    obtain ⟨g1, g2, g3⟩ := grow_new w X (some ⟨b, o, none⟩) n c k hf hn hk
    exact ⟨_, _, _, h, g1, g2, g3, ((Chg.refl _ _).drew).alloc _⟩

set_option maxHeartbeats 2000000 in
theorem grow220_any (a : Option Addr) (n c k : Nat) (w : World) (hz : ZOK w a c) (hn : n ≤ c) (hk : n + k < 1099511627776) :
    Calls Tryz.prog 220 #[.slice a n c, .int .i64 (k : Int)] w (GrowPost w a n c k) := by
  have hcap := hz.cap
  have h0 : decide ((k : Int) < 0) = false := by simp
  have s1 : IntKind.i64.wrap ((c : Int) - (n : Int)) = (c : Int) - (n : Int) := IntWalk.i64_in _ (by omega)
  have s2 : IntKind.i64.wrap ((k : Int) - ((c : Int) - (n : Int))) = (k : Int) - ((c : Int) - (n : Int)) := IntWalk.i64_in _ (by omega)
  by_cases hf : n + k ≤ c
  · have h1 : decide ((0 : Int) < (k : Int) - ((c : Int) - (n : Int))) = false := by simp; omega
    have HZ := Lib.hid hz
    clear hz
    go_enter Tryz.func220, Tryz.ntmps220
    go_wp2
    go_ret
    exact ⟨a, c, rfl, hf, HZ.out, Or.inl ⟨rfl, rfl⟩, Chg.refl _ _⟩
  · have h1 : decide ((0 : Int) < (k : Int) - ((c : Int) - (n : Int))) = true := by simp; omega
    have h2 : (k : Int) - ((c : Int) - (n : Int)) = ((n + k - c : Nat) : Int) := by omega
    have h3 : (0 : Int) ≤ (c : Int) := by omega
    go_enter Tryz.func220, Tryz.ntmps220
    obtain ⟨a', c', w', hrun, q1, q2, q3, q4⟩ := run_zeros 120 120 Tryz.underlying120 a n c k w hz hn (by omega) hk
    have HR := Lib.hid hrun
    have HQ := Lib.hid (And.intro q1 (And.intro q2 (And.intro q3 q4)))
    have h4 : (0 : Int) ≤ (n : Int) := by omega
    have h5 : (n : Int) ≤ (c' : Int) := by omega
    clear hrun q2 q3 q4 hz
    go_wp2_with (refine Lib.wpList_append_run _ rfl (.tmp 20) (.tmp 21) 120 3 rfl (.slice a c c) (.int .i64 ((n + k - c : Nat) : Int)) rfl rfl _ _ HR.out ?_)
    go_ret
    obtain ⟨q1, q2, q3, q4⟩ := HQ.out
    exact ⟨a', c', rfl, q1, q2, q3, q4⟩

set_option maxHeartbeats 2000000 in
theorem grow248_any (a : Option Addr) (n c k : Nat) (w : World) (hz : ZOK w a c) (hn : n ≤ c) (hk : n + k < 1099511627776) :
    Calls Tryz.prog 248 #[.slice a n c, .int .i64 (k : Int)] w (GrowPost w a n c k) := by
  have hcap := hz.cap
  have h0 : decide ((k : Int) < 0) = false := by simp
  have s1 : IntKind.i64.wrap ((c : Int) - (n : Int)) = (c : Int) - (n : Int) := IntWalk.i64_in _ (by omega)
  have s2 : IntKind.i64.wrap ((k : Int) - ((c : Int) - (n : Int))) = (k : Int) - ((c : Int) - (n : Int)) := IntWalk.i64_in _ (by omega)
  by_cases hf : n + k ≤ c
  · have h1 : decide ((0 : Int) < (k : Int) - ((c : Int) - (n : Int))) = false := by simp; omega
    have HZ := Lib.hid hz
    clear hz
    go_enter Tryz.func248, Tryz.ntmps248
    go_wp2
    go_ret
    exact ⟨a, c, rfl, hf, HZ.out, Or.inl ⟨rfl, rfl⟩, Chg.refl _ _⟩
  · have h1 : decide ((0 : Int) < (k : Int) - ((c : Int) - (n : Int))) = true := by simp; omega
    have h2 : (k : Int) - ((c : Int) - (n : Int)) = ((n + k - c : Nat) : Int) := by omega
    have h3 : (0 : Int) ≤ (c : Int) := by omega
    go_enter Tryz.func248, Tryz.ntmps248
    obtain ⟨a', c', w', hrun, q1, q2, q3, q4⟩ := run_zeros 119 119 Tryz.underlying119 a n c k w hz hn (by omega) hk
    have HR := Lib.hid hrun
    have HQ := Lib.hid (And.intro q1 (And.intro q2 (And.intro q3 q4)))
    have h4 : (0 : Int) ≤ (n : Int) := by omega
    have h5 : (n : Int) ≤ (c' : Int) := by omega
    clear hrun q2 q3 q4 hz
    go_wp2_with (refine Lib.wpList_append_run _ rfl (.tmp 20) (.tmp 21) 119 3 rfl (.slice a c c) (.int .i64 ((n + k - c : Nat) : Int)) rfl rfl _ _ HR.out ?_)
    go_ret
    obtain ⟨q1, q2, q3, q4⟩ := HQ.out
    exact ⟨a', c', rfl, q1, q2, q3, q4⟩
structure SD where
  q : Nat
  a : Option Addr
  L : Nat
  c : Nat
def Stk (w : World) (p : Nat) : Option SD → Prop
  | none => w.cell? ⟨p, 0, none⟩ = some (.pointer none) ∧ w.frozen? ⟨p, 0, none⟩ = false
  | some d => (w.cell? ⟨p, 0, none⟩ = some (.pointer (some ⟨d.q, 0, none⟩)) ∧ w.frozen? ⟨p, 0, none⟩ = false) ∧ (w.cell? ⟨d.q, 0, none⟩ = some (.slice d.a d.L d.c) ∧ w.frozen? ⟨d.q, 0, none⟩ = false) ∧ d.L ≤ d.c ∧ ZOK w d.a d.c ∧ d.q ≠ p ∧ ∀ b o, d.a = some ⟨b, o, none⟩ → b ≠ p ∧ b ≠ d.q
def zStk (p : Nat) : Option SD → Zone
  | none => zRow p 0 1
  | some d => fun b o => zRow p 0 1 b o ∨ zRow d.q 0 1 b o ∨ ∃ po, d.a = some ⟨b, po, none⟩ ∧ po + d.L ≤ o ∧ o < po + d.c
def stkL : Option SD → Nat
  | none => 0
  | some d => d.L
def StkFrom (w0 : World) : Option SD → Option SD → Prop
  | none, none => True
  | some _, none => False
  | none, some d' => w0.heap.size ≤ d'.q ∧ Fresh w0 d'.a
  | some d, some d' => d'.q = d.q ∧ d.L ≤ d'.L ∧ ((d'.a = d.a ∧ d'.c = d.c) ∨ Fresh w0 d'.a)
theorem Fresh.base {w0 w1 : World} {a : Option Addr} (h : Fresh w1 a) (hw : w0.heap.size ≤ w1.heap.size) : Fresh w0 a := by
  rcases h with h | ⟨b, o, e, hb⟩
  · exact Or.inl h
  · exact Or.inr ⟨b, o, e, by omega⟩
theorem StkFrom.refl {w0 : World} {d : Option SD} : StkFrom w0 d d := by
  cases d with
  | none => trivial
  | some d => exact ⟨rfl, Nat.le_refl _, Or.inl ⟨rfl, rfl⟩⟩
theorem StkFrom.trans {w0 w1 : World} {d d1 d2 : Option SD} (h : StkFrom w0 d d1) (k : StkFrom w1 d1 d2) (hw : w0.heap.size ≤ w1.heap.size) : StkFrom w0 d d2 := by
  cases d with
  | none => cases d1 with
    | none => cases d2 with
      | none => trivial
      | some d2 => exact ⟨by have := k.1; omega, k.2.base hw⟩
    | some d1 => cases d2 with
      | none => exact k.elim
      | some d2 =>
        refine ⟨by have := k.1; have := h.1; omega, ?_⟩
        rcases k.2.2 with ⟨e, _⟩ | e
        · rw [e]; exact h.2
        · exact e.base hw
  | some d => cases d1 with
    | none => exact h.elim
    | some d1 => cases d2 with
      | none => exact k.elim
      | some d2 =>
        refine ⟨k.1.trans h.1, Nat.le_trans h.2.1 k.2.1, ?_⟩
        rcases k.2.2 with ⟨e1, e2⟩ | e
        · rw [e1, e2]; exact h.2.2
        · exact Or.inr (e.base hw)
theorem StkFrom.zone {w0 : World} {p : Nat} {d d' : Option SD} (h : StkFrom w0 d d') : ∀ b o, b < w0.heap.size → zStk p d' b o → zStk p d b o := by
  intro b o hb hz
  cases d with
  | none => cases d' with
    | none => exact hz
    | some d' =>
      rcases hz with hz | hz | ⟨po, e, _⟩
      · exact hz
      · have := h.1; have := hz.1; omega
      · rcases h.2 with h | ⟨b', o', h, hb'⟩
        · rw [h] at e; cases e
        · rw [h] at e; injection e with e; injection e with e1 _; omega
  | some d => cases d' with
    | none => exact h.elim
    | some d' =>
      rcases hz with hz | hz | ⟨po, e, h1, h2⟩
      · exact Or.inl hz
      · exact Or.inr (Or.inl (by rw [← h.1]; exact hz))
      · rcases h.2.2 with ⟨e1, e2⟩ | hf
        · exact Or.inr (Or.inr ⟨po, by rw [← e1]; exact e, by have := h.2.1; omega, by rw [← e2]; exact h2⟩)
        · rcases hf with h | ⟨b', o', h, hb'⟩
          · rw [h] at e; cases e
          · rw [h] at e; injection e with e; injection e with e1 _; omega
theorem ZOK.ints {Z : Zone} {w w' : World} {a : Option Addr} {c : Nat} (h : ZOK w a c) (k : Chg Z w w') (hz : ∀ b o, zAddr a c b o → Z b o → ∃ x : Int, w'.cell? ⟨b, o, none⟩ = some (.int .u64 x)) : ZOK w' a c := by
  rcases h with h | ⟨b, o, rfl, hp, hr, hc⟩
  · exact Or.inl h
  · refine Or.inr ⟨b, o, rfl, hp.chg k, fun i hi => ?_, hc⟩
    obtain ⟨⟨x, hx⟩, hf⟩ := hr i hi
    refine ⟨?_, by rw [k.frozen hx]; exact hf⟩
    by_cases hh : Z b (o + i)
    · exact hz b (o + i) ⟨o, rfl, by omega, by omega⟩ hh
    · exact ⟨x, k.cell hx hh⟩
theorem Stk.chg {Z : Zone} {w w' : World} {p : Nat} {d : Option SD} (h : Stk w p d) (k : Chg Z w w') (hp : ¬ Z p 0) (hq : ∀ s, d = some s → ¬ Z s.q 0 ∧ ∀ b o, zAddr s.a s.c b o → Z b o → ∃ x : Int, w'.cell? ⟨b, o, none⟩ = some (.int .u64 x)) : Stk w' p d := by
  cases d with
  | none => exact ⟨k.cell h.1 hp, (k.frozen h.1 _).trans h.2⟩
  | some d =>
    obtain ⟨⟨h1, h2⟩, ⟨h3, h4⟩, h5, h6, h7, h8⟩ := h
    obtain ⟨g1, g2⟩ := hq d rfl
    exact ⟨⟨k.cell h1 hp, (k.frozen h1 _).trans h2⟩, ⟨k.cell h3 g1, (k.frozen h3 _).trans h4⟩, h5, h6.ints k g2, h7, h8⟩
theorem save_any (p : Nat) (d : Option SD) (w : World) (h : Stk w p d) : Calls Tryz.prog 168 #[.pointer (some ⟨p, 0, none⟩)] w fun e w' => e = .returned (.int .i64 (stkL d)) ∧ w' = w := by
  cases d with
  | none =>
    obtain ⟨h1, h2⟩ := h
    go_enter Tryz.func168, Tryz.ntmps168
    go_wp2
    go_ret
    exact ⟨rfl, rfl⟩
  | some d =>
    obtain ⟨q, a, L, c⟩ := d
    obtain ⟨⟨h1, h2⟩, ⟨h3, h4⟩, h5, h6, h7, h8⟩ := h
    simp only at h1 h2 h3 h4
    clear h5 h6 h7 h8
    go_enter Tryz.func168, Tryz.ntmps168
    go_wp2
    go_ret
    exact ⟨rfl, rfl⟩
def RestPost (w : World) (p : Nat) (d : Option SD) (k : Nat) (w' : World) : Prop :=
  ∃ d', Stk w' p d' ∧ d' = d.map (fun s => { s with L := k }) ∧ Chg (match d with | none => zNone | some s => zRow s.q 0 1) w w'
theorem restore_d (p : Nat) (d : Option SD) (k : Nat) (u : FrameMode) (w : World) (h : Stk w p d) (hk : k ≤ stkL d) :
    CallsD Tryz.prog 167 #[.pointer (some ⟨p, 0, none⟩), .int .i64 (k : Int)] u w fun e u' w' => u' = u ∧ (e = .returned (.tuple #[]) ∧ RestPost w p d k w') := by
  cases d with
  | none =>
    have H := Lib.hid h
    obtain ⟨h1, h2⟩ := h
    go_enter_d Tryz.func167, Tryz.ntmps167
    go_wp2
    refine bodyPost_ret (results_none rfl _ _ _) rfl ?_
    exact ⟨rfl, none, H.out, rfl, Chg.refl _ _⟩
  | some d =>
    obtain ⟨q, a, L, c⟩ := d
    have H := Lib.hid h
    obtain ⟨⟨h1, h2⟩, ⟨h3, h4⟩, h5, h6, h7, h8⟩ := h
    simp only [stkL] at h1 h2 h3 h4 h5 hk
    have hq1 : (0 : Int) ≤ (k : Int) := by omega
    have hq2 : (k : Int) ≤ (c : Int) := by omega
    have hq3 : (k : Int) ≤ (L : Int) := by omega
    clear h6 h7 h8
    go_enter_d Tryz.func167, Tryz.ntmps167
    go_wp2
    go_end0
    go_wp2
    go_end0
    refine ⟨rfl, some ⟨q, a, k, c⟩, ?_, rfl, chg_cell _ _ _ _⟩
    obtain ⟨⟨h1, h2⟩, ⟨h3, h4⟩, h5, h6, h7, h8⟩ := H.out
    have kk := chg_cell w q 0 (.slice a k c)
    refine ⟨⟨kk.cell h1 (fun h => h7 h.1.symm), by rw [fz_set]; exact h2⟩, ⟨cs_same h3, by rw [fz_set]; exact h4⟩, ?_, h6.chg kk ?_, h7, h8⟩
    · simp only at h5 ⊢; omega
    · rintro b o ⟨po, e, _⟩ hh
      exact (h8 b po e).2 hh.1
theorem info136 : (Tryz.prog.info? 136).map (·.size) = some 7 := by kernel_rfl
theorem flt_ptr_eq (w : World) {b b' : Nat} {B : Bool} (h : PB w b) (h' : PB w b') (hB : B = decide (b = b')) :
    (binOp .eql 85 (.pointer (some ⟨b, 0, none⟩)) (.pointer (some ⟨b', 0, none⟩))).run Tryz.prog w = .ok (.bool B) w := by
  cases hi : Tryz.prog.info? 136 with
  | none => have := info136; rw [hi] at this; cases this
  | some i =>
    have hs : i.size = 7 := by have := info136; rw [hi] at this; simpa using this
    subst hB
    by_cases he : b = b'
    · subst he
      rw [run_eql_ptr_same w _ Tryz.underlying85 hi]
      simp
    · obtain ⟨cs, t, h⟩ := h
      obtain ⟨cs', t', h'⟩ := h'; rw [run_eql_ptr_other w Tryz.underlying85 hi (by omega) (fun (e : (⟨b, 0, none⟩ : Addr) = ⟨b', 0, none⟩) => he (by injection e with e1 e2)) h h']; rw [decide_eq_false he]
theorem home_le {w w1 : World} {az a : Option Addr} {zc c : Nat} (h : Home w1 az zc a c) (hs : w.heap.size ≤ w1.heap.size) : Home w az zc a c := by
  rcases h with h | ⟨b, o, e, hb⟩
  · exact Or.inl h
  · exact Or.inr ⟨b, o, e, by omega⟩
def MulRel (w : World) (b : Nat) (v : FV) (P : Int) (wc : World) : Prop :=
  ∃ a n c Z, FltC wc b { v with a := a, n := n, c := c } ∧ n ≤ c ∧ ZOK wc a c ∧ Rd wc a n Z ∧ WF Z n ∧ Norm Z n ∧ val Z n = P ∧ Home w v.a v.c a c ∧ Chg (zF b v) w wc ∧ ∀ b' o, a = some ⟨b', o, none⟩ → b' ≠ b
theorem mulrel_of {w w1 : World} {b : Nat} {v : FV} {X : Nat → Int} {P : Int} {a : Option Addr} {n c : Nat} {Z : Nat → Int} (h : FNum w b v X) (h1 : n ≤ c) (h2 : ZOK w1 a c) (h3 : Rd w1 a n Z) (h4 : WF Z n) (h5 : Norm Z n) (h6 : val Z n = P) (h7 : Home w v.a v.c a c) (h8 : Chg (zAddr v.a v.c) w w1) :
    MulRel w b v P (w1.setCell ⟨b, 5, none⟩ (.slice a n c)) := by
  have hc := h.c.chg h8 (fun o ho hh => by obtain ⟨po, e, _⟩ := hh; exact h.ap _ _ e rfl)
  have hap : ∀ b' o, a = some ⟨b', o, none⟩ → b' ≠ b := by
    intro b' o e
    rcases h7 with ⟨g, _⟩ | ⟨b2, o2, g, hb⟩
    · exact h.ap b' o (g.symm.trans e)
    · rw [g] at e; injection e with e; injection e with e1 _; have := h.c.lt; omega
  have k := chg_cell w1 b 5 (.slice a n c); refine ⟨a, n, c, Z, hc.setMt a n c, h1, h2.chg k ?_, ?_, h4, h5, h6, h7, (h8.mono (fun _ _ _ h => Or.inr h)).trans k (fun b' o _ hh => Or.inl ⟨hh.1, by omega, by have := hh.2.2; omega⟩), hap⟩
  · rintro b' o ⟨po, e, _⟩ hh
    exact hap b' po e hh.1
  · rcases h3 with hh | ⟨b', o, e, hw⟩
    · exact Or.inl hh
    · exact Or.inr ⟨b', o, e, hw.chg k (fun i hi hh => hap b' o e hh.1)⟩
def UMulPost (w : World) (b p : Nat) (v : FV) (P : Int) (ex : Int) (w' : World) : Prop :=
  ∃ (W : World) (v1 : FV) (Z : Nat → Int) (s : Nat), v1 = { v with a := v1.a, n := v1.n, c := v1.c } ∧ FMant W v1 Z ∧ val Z v1.n = P * 2 ^ s ∧ s < 64 ∧ Home w v.a v.c v1.a v1.c ∧ Chg (zF b v) w W ∧ SERPost W b v1 Z (ex - s) false p w'
theorem FNum.natin {w : World} {b : Nat} {v : FV} {X : Nat → Int} (h : FNum w b v X) (hf : v.fm = 1) : NatIn w v.a v.n v.c X := by
  obtain ⟨h1, h2, h3, h4, h5, h6⟩ := h.fin hf; exact ⟨h4, h5, h2, by omega, h.z.aok⟩
theorem val_mono_len {Z : Nat → Int} {n m : Nat} (hZ : WF Z n) (hN : Norm Z n) (hn : 0 < n) (h : val Z n < BB ^ m) : n ≤ m := by
  by_cases hh : n ≤ m
  · exact hh
  · exfalso
    obtain ⟨k, rfl⟩ : ∃ k, n = k + 1 := ⟨n - 1, by omega⟩; have h1 : val Z (k + 1) = val Z k + BB ^ k * Z k := by rw [val_add, val_one]; rfl
    have h2 := val_nonneg (hZ.le (show k ≤ k + 1 by omega)); have h3 := (hZ k (by omega)).1
    have h4 : Z k ≠ 0 := by
      rcases hN with h | h
      · omega
      · exact h
    have h5 := Int.mul_le_mul_of_nonneg_left (show 1 ≤ Z k by omega) (Int.le_of_lt (BBn_pos k))
    have h6 : BB ^ m ≤ BB ^ k := by
      obtain ⟨j, hj⟩ : ∃ j, k = m + j := ⟨k - m, by omega⟩; rw [hj, Int.pow_add]; have := Int.mul_le_mul_of_nonneg_left (show 1 ≤ BB ^ j by have := BBn_pos j; omega) (Int.le_of_lt (BBn_pos m)); omega
    omega
theorem mul_out {w wc : World} {zb yb : Nat} {v vy : FV} {X Y Z : Nat → Int} {a' : Option Addr} {n' c' : Nat} (h : FNum w zb v X) (hy : FNum w yb vy Y) (hf : v.fm = 1) (hfy : vy.fm = 1) (r2 : n' ≤ c') (r3 : ZOK wc a' c') (r4 : Rd wc a' n' Z) (r5 : WF Z n') (r6 : Norm Z n') (r7 : val Z n' = val X v.n * val Y vy.n) :
    0 < n' ∧ n' ≤ v.n + vy.n ∧ ∃ bm om, a' = some ⟨bm, om, none⟩ ∧ Words wc bm om n' Z ∧ Room wc bm om c' ∧ Z (n' - 1) ≠ 0 ∧ n' < 131072 := by
  obtain ⟨h1, h2, h3, h4, h5, h6⟩ := h.fin hf; obtain ⟨k1, k2, k3, k4, k5, k6⟩ := hy.fin hfy; obtain ⟨x1, x2⟩ := val_ge_top h5 h1 h6; obtain ⟨y1, y2⟩ := val_ge_top k5 k1 k6; have px : 0 < val X v.n := by have := two_pos (64 * v.n - 1); omega
  have py : 0 < val Y vy.n := by have := two_pos (64 * vy.n - 1); omega
  have hP := Int.mul_pos px py
  have hn0 : 0 < n' := by
    rcases Nat.eq_zero_or_pos n' with e | e
    · rw [e] at r7; simp only [val] at r7; omega
    · exact e
  have hlt : val Z n' < BB ^ (v.n + vy.n) := by
    rw [r7, Int.pow_add]; have a1 := val_lt h5; have a2 := val_lt k5; have := Int.mul_lt_mul_of_pos_right a1 py; have := Int.mul_lt_mul_of_pos_left a2 (BBn_pos v.n); omega
  have hle := val_mono_len r5 r6 hn0 hlt
  rcases r4 with hh | ⟨bm, om, e, hw⟩
  · omega
  · subst e
    refine ⟨hn0, hle, bm, om, rfl, hw, r3.room0, ?_, by omega⟩
    rcases r6 with hh | hh
    · omega
    · exact hh
set_option maxHeartbeats 8000000 in
theorem umul_other (zb yb p : Nat) (v vy : FV) (X Y : Nat → Int) (w : World) (h : FNum w zb v X) (hy : FNum w yb vy Y) (hf : v.fm = 1) (hfy : vy.fm = 1) (hp : v.p = (p : Int)) (hne : zb ≠ yb) (hsep : ∀ b o, zF zb v b o → ¬ zF yb vy b o) (hn : v.n < 12) (hny : vy.n < 12)
    (hK : w.cell? ⟨1, 0, none⟩ = some (.int .i64 40)) :
    Calls Tryz.prog 227 #[.pointer (some ⟨zb, 0, none⟩), .pointer (some ⟨zb, 0, none⟩), .pointer (some ⟨yb, 0, none⟩)] w fun e w' => e = .returned (.tuple #[]) ∧ UMulPost w zb p v (val X v.n * val Y vy.n) (v.e + vy.e) w' := by
  have hpe := flt_ptr_eq w h.c.pb hy.c.pb (decide_eq_false hne).symm; have hpe' : ∀ k, (binOp .eql 85 (.pointer (some ⟨zb, 0, none⟩)) (.pointer (some ⟨yb, 0, none⟩))).run Tryz.prog (w.drewN k) = .ok (.bool false) (w.drewN k) := fun k => flt_ptr_eq (w.drewN k) h.c.pb hy.c.pb (decide_eq_false hne).symm
  have HM := Lib.hid (fun k => mul_any v.a v.a vy.a v.n v.c v.n v.c vy.n vy.c X Y (.pointer none) (w.drewN k) (h.z.chg ((Chg.refl zNone w).drewN k) (fun _ _ _ h => h)) (h.natin hf |>.drewN k) (hy.natin hfy |>.drewN k) (Or.inl ⟨rfl, rfl⟩)
    (Or.inr (fun b o i e hi hh => hsep b (o + i) (Or.inr hh) (Or.inr ⟨o, e, by omega, by have := (hy.fin hfy).2.1; omega⟩))) (Or.inl (by omega)) hK)
  have H := Lib.hid (And.intro h (And.intro hy (And.intro hf (And.intro hfy hsep)))); obtain ⟨P, md, ac, fm, ng, a, n, c, e0⟩ := v; obtain ⟨Py, mdy, acy, fmy, ngy, ay, ny, cy, ey⟩ := vy; obtain ⟨c0, c1, c2, c3, c4, c5, c6, cb⟩ := h.c; obtain ⟨y0, y1, y2, y3, y4, y5, y6, yb'⟩ := hy.c; have f5 := cb.fz 5; have hex := h.ex; have hey := hy.ex; simp only at hp hf hfy c0 c1 c2 c3 c4 c5 c6 y0 y1 y2 y3 y4 y5 y6 hex hey hn hny HM; have w1 : IntKind.i64.wrap e0 = e0 := IntWalk.i64_in _ (by omega); have w2 : IntKind.i64.wrap ey = ey := IntWalk.i64_in _ (by omega); have w3 : IntKind.i64.wrap (e0 + ey) = e0 + ey := IntWalk.i64_in _ (by omega); clear h hy hsep cb yb' hf hfy hK
  go_enter Tryz.func227, Tryz.ntmps227
  go_wp2_with fail
  go_quiet (fail)
  obtain ⟨W0, hW0⟩ : ∃ W0, W0 = w.drewN nq := ⟨_, rfl⟩; have kD : Chg zNone w W0 := by rw [hW0]; exact (Chg.refl _ _).drewN nq
  have kD1 : Chg zNone w W0.drew := kD.drew; have hpe2 : (binOp .eql 85 (.pointer (some ⟨zb, 0, none⟩)) (.pointer (some ⟨yb, 0, none⟩))).run Tryz.prog W0 = .ok (.bool false) W0 := by rw [hW0]; exact hpe' nq
  have HM0 : Hid (Calls Tryz.prog 106 #[.slice a n c, .pointer none, .slice a n c, .slice ay ny cy] W0.drew (NatRes W0.drew a c (val X n * val Y ny))) := by rw [hW0]; exact HM.out (nq + 1)
  have c5' : W0.cell? ⟨zb, 5, none⟩ = some (.slice a n c) := kD.cell c5 (fun h => h); have f5' : W0.frozen? ⟨zb, 5, none⟩ = false := (kD.frozen c5 _).trans f5; have y5' : W0.cell? ⟨yb, 5, none⟩ = some (.slice ay ny cy) := kD.cell y5 (fun h => h); have HK := Lib.hid (And.intro kD kD1); rw [← hW0]; clear HM hpe hpe' c0 c1 c2 c3 c4 c5 c6 y0 y1 y2 y3 y4 y5 y6 f5 kD kD1 hW0; go_upto_if 20 with fail; go_cut [6] (fun s6 wc => s6 = .int .i64 (e0 + ey) ∧ Hid (MulRel w zb ⟨P, md, ac, fm, ng, a, n, c, e0⟩ (val X n * val Y ny) wc))
  case first => as_aux_lemma =>
    go_wp2_with fail; refine wp_region_noPanic ?_; refine wp_region_any (by kernel_rfl) ?_; change wpAny _ _ _ _ _ _ _ (World.drew _); refine wpAny_take (i := 0) (v := ?_) rfl (by kernel_rfl) (by kernel_rfl) (by kernel_rfl) (fun _ _ _ h => False.elim h) (Or.inl ⟨by rfl, ?_⟩) ?_; rotate_left 1
    · intro w9
      go_simp; (try with_reducible rfl)
    (try simp only [Act.put, List.getElem_toArray, List.getElem_cons_zero, List.getElem_cons_succ, List.setIfInBounds_toArray, List.set_cons_zero, List.set_cons_succ]); refine wpAny_take (i := 1) (v := ?_) rfl (by kernel_rfl) (by kernel_rfl) (by kernel_rfl) (fun _ _ _ h => False.elim h) (Or.inl ⟨by rfl, ?_⟩) ?_; rotate_left 1
    · intro w9
      go_simp; (try with_reducible rfl)
    (try simp only [Act.put, List.getElem_toArray, List.getElem_cons_zero, List.getElem_cons_succ, List.setIfInBounds_toArray, List.set_cons_zero, List.set_cons_succ]); refine wpAny_take (i := 5) (v := ?_) rfl (by kernel_rfl) (by kernel_rfl) (by kernel_rfl) (fun _ _ _ h => False.elim h) (Or.inl ⟨by rfl, ?_⟩) ?_; rotate_left 1
    · intro w9
      go_simp; (try with_reducible rfl)
    (try simp only [Act.put, List.getElem_toArray, List.getElem_cons_zero, List.getElem_cons_succ, List.setIfInBounds_toArray, List.set_cons_zero, List.set_cons_succ]); refine wpAny_take (i := 9) (v := ?_) rfl (by kernel_rfl) (by kernel_rfl) (by kernel_rfl) (fun _ _ _ h => False.elim h) (Or.inl ⟨by rfl, ?_⟩) ?_; rotate_left 1
    · intro w9
      go_simp; (try with_reducible rfl)
    (try simp only [Act.put, List.getElem_toArray, List.getElem_cons_zero, List.getElem_cons_succ, List.setIfInBounds_toArray, List.set_cons_zero, List.set_cons_succ]); refine wpAny_take (i := 2) (v := ?_) rfl (by kernel_rfl) (by kernel_rfl) (by kernel_rfl) (fun _ _ _ h => False.elim h) (Or.inl ⟨by rfl, ?_⟩) ?_; rotate_left 1
    · intro w9
      go_simp; (try with_reducible rfl)
    (try simp only [Act.put, List.getElem_toArray, List.getElem_cons_zero, List.getElem_cons_succ, List.setIfInBounds_toArray, List.set_cons_zero, List.set_cons_succ]); refine wpAny_take (i := 6) (v := ?_) rfl (by kernel_rfl) (by kernel_rfl) (by kernel_rfl) (fun _ _ _ h => False.elim h) (Or.inl ⟨by rfl, ?_⟩) ?_; rotate_left 1
    · intro w9
      go_simp; (try with_reducible rfl)
    (try simp only [Act.put, List.getElem_toArray, List.getElem_cons_zero, List.getElem_cons_succ, List.setIfInBounds_toArray, List.set_cons_zero, List.set_cons_succ]); refine wpAny_take (i := 10) (v := ?_) rfl (by kernel_rfl) (by kernel_rfl) (by kernel_rfl) (fun _ _ _ h => False.elim h) (Or.inl ⟨by rfl, ?_⟩) ?_; rotate_left 1
    · intro w9
      go_simp; (try with_reducible rfl)
    (try simp only [Act.put, List.getElem_toArray, List.getElem_cons_zero, List.getElem_cons_succ, List.setIfInBounds_toArray, List.set_cons_zero, List.set_cons_succ]); refine wpAny_take (i := 3) (v := ?_) rfl (by kernel_rfl) (by kernel_rfl) (by kernel_rfl) (fun _ _ _ h => False.elim h) (Or.inl ⟨by rfl, ?_⟩) ?_; rotate_left 1
    · intro w9
      go_simp; (try with_reducible rfl)
    (try simp only [Act.put, List.getElem_toArray, List.getElem_cons_zero, List.getElem_cons_succ, List.setIfInBounds_toArray, List.set_cons_zero, List.set_cons_succ]); refine wpAny_take (i := 7) (v := ?_) rfl (by kernel_rfl) (by kernel_rfl) (by kernel_rfl) (fun _ _ _ h => False.elim h) (Or.inl ⟨by rfl, ?_⟩) ?_; rotate_left 1
    · intro w9
      go_simp; (try with_reducible rfl)
    (try simp only [Act.put, List.getElem_toArray, List.getElem_cons_zero, List.getElem_cons_succ, List.setIfInBounds_toArray, List.set_cons_zero, List.set_cons_succ]); refine wpAny_take (i := 11) (v := ?_) rfl (by kernel_rfl) (by kernel_rfl) (by kernel_rfl) (fun _ _ _ h => False.elim h) (Or.inl ⟨by rfl, ?_⟩) ?_; rotate_left 1
    · intro w9
      go_simp; (try with_reducible rfl)
    (try simp only [Act.put, List.getElem_toArray, List.getElem_cons_zero, List.getElem_cons_succ, List.setIfInBounds_toArray, List.set_cons_zero, List.set_cons_succ]); refine wpAny_ready (rs := [4, 8, 12]) (by kernel_rfl) (by simp) ?_
    all_goals refine AllReady.cons rfl (fun K hK => ?_) (AllReady.cons rfl (fun K hK => ?_) (AllReady.cons rfl (fun K hK => ?_) AllReady.nil))
    all_goals go_simp
    all_goals refine hK _ _ ?_
    all_goals clear hK K
    all_goals try simp only [Act.put, List.getElem_toArray, List.getElem_cons_zero, List.getElem_cons_succ, List.setIfInBounds_toArray, List.set_cons_zero, List.set_cons_succ]
    refine wpAny_ready (rs := [8, 12]) (by kernel_rfl) (by simp) ?_; rotate_left 1; refine wpAny_ready (rs := [4, 12]) (by kernel_rfl) (by simp) ?_; rotate_left 1; refine wpAny_ready (rs := [4, 8]) (by kernel_rfl) (by simp) ?_; rotate_left 1
    all_goals refine AllReady.cons rfl (fun K hK => ?_) (AllReady.cons rfl (fun K hK => ?_) AllReady.nil)
    all_goals go_simp
    all_goals refine hK _ _ ?_
    all_goals clear hK K
    all_goals try simp only [Act.put, List.getElem_toArray, List.getElem_cons_zero, List.getElem_cons_succ, List.setIfInBounds_toArray, List.set_cons_zero, List.set_cons_succ]
    refine wpAny_ready (rs := [12]) (by kernel_rfl) (by simp) ?_; rotate_left 1; refine wpAny_ready (rs := [8]) (by kernel_rfl) (by simp) ?_; rotate_left 1; refine wpAny_ready (rs := [12]) (by kernel_rfl) (by simp) ?_; rotate_left 1; refine wpAny_ready (rs := [4]) (by kernel_rfl) (by simp) ?_; rotate_left 1; refine wpAny_ready (rs := [8]) (by kernel_rfl) (by simp) ?_; rotate_left 1; refine wpAny_ready (rs := [4]) (by kernel_rfl) (by simp) ?_; rotate_left 1
    all_goals refine AllReady.cons rfl (fun K hK => ?_) AllReady.nil
    all_goals go_simp
    all_goals refine hK _ _ ?_
    all_goals clear hK K
    all_goals try simp only [Act.put, List.getElem_toArray, List.getElem_cons_zero, List.getElem_cons_succ, List.setIfInBounds_toArray, List.set_cons_zero, List.set_cons_succ]
    all_goals
      refine wpAny_ready (rs := [13]) (by kernel_rfl) (by simp) ?_; refine AllReady.cons rfl (fun K hK => ?_) AllReady.nil; go_simp; go_wp2_with (go_at_call 106; go_loud (refine HM0.out.mono ?_; rintro e w1 ⟨a', n', c', Z, rfl, h1, h2, h3, h4, h5, h6, h7, h8⟩; have k8 : Chg (zAddr a c) w w1 := (HK.out.2.mono (fun _ _ _ h => h.elim)).trans h8 (fun _ _ _ h => h); have z5' : w1.cell? ⟨zb, 5, none⟩ = some (.slice a n c) := h8.cell (w := W0.drew) c5' (fun hh => by obtain ⟨po, e, _⟩ := hh; exact H.out.1.ap _ _ e rfl); have f6' : w1.frozen? ⟨zb, 5, none⟩ = false := (h8.frozen (w := W0.drew) c5' 5).trans f5'; have HR := Lib.hid (mulrel_of H.out.1 h1 h2 h3 h4 h5 h6 (home_le h7 HK.out.2.size) k8); clear h1 h2 h3 h4 h5 h6 h7 h8 k8)); (try simp only [Act.put, List.getElem_toArray, List.getElem_cons_zero, List.getElem_cons_succ, List.setIfInBounds_toArray, List.set_cons_zero, List.set_cons_succ]); refine wpAny_take (i := 14) (v := ?_) rfl (by kernel_rfl) (by kernel_rfl) (by kernel_rfl) (fun _ _ _ h => False.elim h) (Or.inl ⟨by rfl, ?_⟩) ?_; rotate_left 1
      · intro w9
        go_simp; (try with_reducible rfl)
      (try simp only [Act.put, List.getElem_toArray, List.getElem_cons_zero, List.getElem_cons_succ, List.setIfInBounds_toArray, List.set_cons_zero, List.set_cons_succ]); refine wpAny_take (i := 15) (v := ?_) rfl (by kernel_rfl) (by kernel_rfl) (by kernel_rfl) (fun _ _ _ h => False.elim h) (Or.inl ⟨by rfl, ?_⟩) ?_; rotate_left 1
      · intro w9
        go_simp; (try with_reducible rfl)
      (try simp only [Act.put, List.getElem_toArray, List.getElem_cons_zero, List.getElem_cons_succ, List.setIfInBounds_toArray, List.set_cons_zero, List.set_cons_succ]); refine wpAny_ready (rs := [16]) (by kernel_rfl) (by simp) ?_; refine AllReady.cons rfl (fun K hK => ?_) AllReady.nil; go_simp; refine hK _ _ ?_; clear hK K; (try simp only [Act.put, List.getElem_toArray, List.getElem_cons_zero, List.getElem_cons_succ, List.setIfInBounds_toArray, List.set_cons_zero, List.set_cons_succ]); refine wpAny_done (by kernel_rfl) ?_ _; refine NoPanic.normal ?_; go_wp2; go_meet; exact ⟨rfl, HR.out⟩
  case rest => as_aux_lemma =>
    obtain ⟨rfl, HR⟩ := hcut; obtain ⟨a', n', c', Z, r1, r2, r3, r4, r5, r6, r7, r8, r9, r10⟩ := HR.out; obtain ⟨hm, hny', bm, om, rfl, hw, hroom, hz0, _⟩ := mul_out H.out.1 H.out.2.1 H.out.2.2.1 H.out.2.2.2.1 r2 r3 r4 r5 r6 r7; have hn24 : n' < 65536 := by simp only at hny'; omega
    have HF := Lib.hid (fnorm_any bm om n' c' Z wc hm (by omega) hw r5 (hroom.le r2) hz0); have HR2 := Lib.hid (And.intro r1 (And.intro r2 (And.intro r3 (And.intro r5 (And.intro r7 (And.intro r8 (And.intro r9 (And.intro r10 (And.intro hm hn24))))))))); clear c5' f5' y5' HM0; obtain ⟨c0, c1, c2, c3, c4, c5, c6, cb⟩ := r1; simp only at c0 c1 c2 c3 c4 c5 c6; clear r2 r3 r4 r5 r6 r7 r8 r9 r10 hm hw hroom hz0 cb hn24 hny'; go_wp2_with fail; refine HF.out.mono ?_; rintro e wd ⟨s, Z2, rfl, q1, q2, q3, q4, q5, q6, q7⟩; obtain ⟨r1, r2, r3, r5, r7, r8, r9, r10, hm, hn24⟩ := HR2.out; have hC := r1.chg q3 (fun o ho hh => r10 bm om rfl hh.1.symm)
    have hZ : ZOK wd (some ⟨bm, om, none⟩) c' := r3.ints q3 (by
      rintro b o _ ⟨rfl, h1, h2⟩; have hy := q4 (o - om) (by omega); rw [show om + (o - om) = o by omega] at hy
      exact ⟨_, hy⟩)
    have hM : FMant wd ⟨P, md, ac, fm, ng, some ⟨bm, om, none⟩, n', c', e0⟩ Z2 := ⟨hm, r2, by simp only; omega, Or.inr ⟨bm, om, rfl, q4⟩, q5, q7⟩; have hN : FNum wd zb ⟨P, md, ac, fm, ng, some ⟨bm, om, none⟩, n', c', e0⟩ Z2 := ⟨hC, hZ, r10, H.out.1.p, H.out.1.md, H.out.1.fm, H.out.1.ex, fun _ => hM⟩; have HS := Lib.hid (setExpAndRound_any zb p ⟨P, md, ac, fm, ng, some ⟨bm, om, none⟩, n', c', e0⟩ Z2 (e0 + ey - s) 0 false wd hN hM hp (Or.inl rfl) (by simp)); have HQ := Lib.hid (And.intro q2 (And.intro q3 (And.intro q6 hM))); have s64 : s < 64 := q2; have w4 : IntKind.i64.wrap (e0 + ey - (s : Int)) = e0 + ey - (s : Int) := IntWalk.i64_in _ (by omega); clear q1 q2 q3 q4 q5 q6 q7 r1 r2 r3 r5 r7 r8 r9 r10 hm hn24 hC hZ hM hN; go_wp2_with fail; refine HS.out.mono ?_; rintro e we ⟨rfl, hs⟩; have Hs := Lib.hid hs; clear hs; go_wp2_with fail
    go_end0
    obtain ⟨r1, r2, r3, r5, r7, r8, r9, r10, hm, hn24⟩ := HR2.out; obtain ⟨q2, q3, q6, hM⟩ := HQ.out; refine ⟨rfl, wd, ⟨P, md, ac, fm, ng, some ⟨bm, om, none⟩, n', c', e0⟩, Z2, s, rfl, hM, ?_, s64, r8, r9.trans q3 ?_, Hs.out⟩
    · simp only; rw [q6, r7]
    · rintro b o hb ⟨rfl, h1, h2⟩
      exact Or.inr (r8.zone _ _ hb ⟨om, rfl, h1, by omega⟩)
end Go.Proofs.YtmgfajamanakcaaGreatDoor
