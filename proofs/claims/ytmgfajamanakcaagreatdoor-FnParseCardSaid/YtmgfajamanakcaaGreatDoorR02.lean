/- Part of the proof of FnParse: what the functions that it reaches do, as contracts. Conditions: those that each theorem names. -/
import Derived.Test.YtmgfajamanakcaaGreatDoorR01
import Derived.Deep.QuietTactic
import Derived.Deep.Draws
namespace Go.Proofs.YtmgfajamanakcaaGreatDoor
set_option linter.unusedVariables false
set_option linter.unusedSimpArgs false
open Go.RowKit
set_option maxRecDepth 100000
def PB (w : World) (b : Nat) : Prop := ∃ cs t, w.heap[b]? = some (.cells cs t (0, 0))
theorem PB.lt {w : World} {b : Nat} (h : PB w b) : b < w.heap.size := by
  obtain ⟨cs, t, h⟩ := h; exact lt_of_cells h
theorem PB.chg {Z : Zone} {w w' : World} {b : Nat} (h : PB w b) (k : Chg Z w w') : PB w' b := by
  obtain ⟨cs, t, h⟩ := h
  obtain ⟨c', h', _⟩ := k.cells b cs t (0, 0) h
  exact ⟨c', t, h'⟩
theorem PB.new (w : World) (cs : Array Value) (t : TypeId) : PB (w.alloc (.cells cs t)) w.heap.size := ⟨cs, t, Array.getElem?_push_size⟩
def ZOK (w : World) (a : Option Addr) (c : Nat) : Prop := (a = none ∧ c = 0) ∨ ∃ b o, a = some ⟨b, o, none⟩ ∧ PB w b ∧ Room w b o c ∧ c < 9223372036854775808
theorem ZOK.cap {w : World} {a : Option Addr} {c : Nat} (h : ZOK w a c) : c < 9223372036854775808 := by
  rcases h with ⟨_, h⟩ | ⟨_, _, _, _, _, h⟩ <;> omega
def Rd (w : World) (a : Option Addr) (n : Nat) (X : Nat → Int) : Prop := n = 0 ∨ ∃ b o, a = some ⟨b, o, none⟩ ∧ Words w b o n X
def zAddr (a : Option Addr) (c : Nat) : Zone := fun b o => ∃ p, a = some ⟨b, p, none⟩ ∧ p ≤ o ∧ o < p + c
def Home (w : World) (az : Option Addr) (zc : Nat) (a : Option Addr) (c : Nat) : Prop := (a = az ∧ c = zc) ∨ (∃ b o, a = some ⟨b, o, none⟩ ∧ w.heap.size ≤ b)
def MakePost (w : World) (az : Option Addr) (zc m : Nat) (e : Ending) (w' : World) : Prop :=
  ∃ a c, e = .returned (.slice a m c) ∧ m ≤ c ∧ ZOK w' a c ∧ Home w az zc a c ∧ Chg zNone w w'
theorem cell?_alloc_new (w : World) (cs : Array Value) (t : TypeId) (i : Nat) (v : Value) (h : cs[i]? = some v) : (w.alloc (.cells cs t)).cell? ⟨w.heap.size, i, none⟩ = some v := by
  have e : (w.alloc (.cells cs t)).heap[w.heap.size]? = some (.cells cs t) := Array.getElem?_push_size
  simp only [World.cell?, e]
  simpa using h
theorem frozen?_alloc_new (w : World) (cs : Array Value) (t : TypeId) (i : Nat) : (w.alloc (.cells cs t)).frozen? ⟨w.heap.size, i, none⟩ = false := by
  have e : (w.alloc (.cells cs t)).heap[w.heap.size]? = some (.cells cs t) := Array.getElem?_push_size
  simp only [World.frozen?, e]
  simp
theorem room_made (w : World) (n : Nat) : Room (w.alloc (.cells (madeCells #[.int .u64 0] n) 153)) w.heap.size 0 n := fun i hi => by
  have h : (madeCells #[Value.int .u64 0] n)[0 + i]? = some (.int .u64 0) := by
    simp [madeCells, hi, Nat.mod_one]
  exact ⟨⟨0, cell?_alloc_new w _ _ _ _ h⟩, frozen?_alloc_new w _ _ _⟩
theorem info153 : (Tryz.prog.info? 153).map (fun i => (i.zero, i.size, i.bytes)) = some (some (.int .u64 0), 1, 8) := by kernel_rfl
theorem run_make_words (w : World) (l c : Int) (h0 : 0 ≤ l) (hlc : l ≤ c) (hc : c ≤ 35184372088832) :
    (Instr.makeSlice 120 (.int .i64 l) (.int .i64 c)).run Tryz.prog w = .ok (.slice (some ⟨w.heap.size, 0, none⟩) l.toNat c.toNat) (w.alloc (.cells (madeCells #[.int .u64 0] c.toNat) 153)) := by
  obtain ⟨i0, hi, hz0, hz1, hz2⟩ := info_parts info153
  have := run_make (P := Tryz.prog) w 120 153 i0 (.int .u64 0) Tryz.underlying120 hi hz0 .i64 .i64 l c h0 hlc (by rw [hz2]; omega) (by omega)
  rw [this, hz1, Nat.mul_one]
  rfl
set_option maxHeartbeats 1000000 in
theorem make_any (az : Option Addr) (zl zc m : Nat) (w : World) (hz : ZOK w az zc) (hm : m < 17592186044416)  :
    Calls Tryz.prog 139 #[.slice az zl zc, .int .i64 m] w (MakePost w az zc m) := by
  have hzc : zc < 9223372036854775808 := hz.cap
  have Hz := Lib.hid hz
  clear hz
  by_cases h : m ≤ zc
  · go_enter Tryz.func139, Tryz.ntmps139
    go_wp2
    go_ret
    exact ⟨az, zc, by simp, h, Hz.out, Or.inl ⟨rfl, rfl⟩, Chg.refl _ _⟩
  · by_cases h1 : m = 1
    · have hmk := fun w => run_make_words w 1 1 (by omega) (by omega) (by omega)
      subst h1
      go_enter Tryz.func139, Tryz.ntmps139
      go_wp2
      go_ret
      refine ⟨some ⟨w.heap.size, 0, none⟩, 1, rfl, Nat.le_refl _, Or.inr ⟨_, _, rfl, PB.new w _ _, room_made w 1, by omega⟩, Or.inr ⟨_, _, rfl, Nat.le_refl _⟩, ?_⟩
      exact (Chg.refl _ _).alloc _
    · have hmk := fun w => run_make_words w (m : Int) ((m : Int) + 4) (by omega) (by omega) (by omega)
      go_enter Tryz.func139, Tryz.ntmps139
      go_wp2
      go_ret
      refine ⟨some ⟨w.heap.size, 0, none⟩, m + 4, rfl, by omega, Or.inr ⟨_, _, rfl, PB.new w _ _, room_made w (m + 4), by omega⟩, Or.inr ⟨_, _, rfl, Nat.le_refl _⟩, ?_⟩
      exact (Chg.refl _ _).alloc _
def Norm (X : Nat → Int) (n : Nat) : Prop := n = 0 ∨ X (n - 1) ≠ 0
def NormPost (w : World) (a : Option Addr) (n c : Nat) (X : Nat → Int) (e : Ending) (w' : World) : Prop :=
  ∃ i, e = .returned (.slice a i c) ∧ i ≤ n ∧ (∀ j, i ≤ j → j < n → X j = 0) ∧ Norm X i ∧ w = w'
set_option maxHeartbeats 1000000 in
theorem norm_any (a : Option Addr) (n c : Nat) (X : Nat → Int) (w : World) (hr : Rd w a n X) (hnc : n ≤ c) (hc : c < 9223372036854775808) :
    Calls Tryz.prog 141 #[.slice a n c] w (NormPost w a n c X) := by
  have Hr := Lib.hid hr
  clear hr
  go_enter Tryz.func141, Tryz.ntmps141
  go_wp2_with fail
  go_loop [3] (fun si => ∃ i : Nat, si = .int .i64 i ∧ i ≤ n ∧ Hid (∀ j, i ≤ j → j < n → X j = 0)) (fun si => (intOf si).toNat)
  case atStart => exact ⟨n, rfl, Nat.le_refl _, fun j h1 h2 => by omega⟩
  case round =>
    obtain ⟨i, rfl, hi, H⟩ := hrel
    by_cases h0 : 0 < i
    · obtain ⟨b, o, rfl, hw⟩ : ∃ b o, a = some ⟨b, o, none⟩ ∧ Words w b o n X := by
        rcases Hr.out with h | h
        · omega
        · exact h
      obtain ⟨x, hx⟩ : ∃ x, X (i - 1) = x := ⟨_, rfl⟩
      have hcell := hw (i - 1) (by omega)
      rw [hx] at hcell
      have Hx := Lib.hid hx
      clear hx hw
      by_cases hz : x = 0
      · have Hz := Lib.hid hz
        have hb : (x == 0) = true := by simp [hz]
        clear hz
        go_wp2
        go_round
        case rel => exact ⟨i - 1, by go_num, by omega, fun j h1 h2 => by
          by_cases hj : j = i - 1
          · rw [hj, Hx.out, Hz.out]
          · exact H.out j (by omega) h2⟩
        case measure => simp [intOf]; omega
      · have hb : (x == 0) = false := by simp [hz]
        have Hz := Lib.hid hz
        clear hz
        go_wp2
        go_ret
        exact ⟨i, by simp, hi, H.out, Or.inr (by rw [Hx.out]; exact Hz.out), rfl⟩
    · have hb : decide (0 < (i : Int)) = false := by simp; omega
      go_wp2
      go_ret
      exact ⟨i, by simp, hi, H.out, Or.inl (by omega), rfl⟩
def NatRes (w : World) (az : Option Addr) (zc : Nat) (v : Int) (e : Ending) (w' : World) : Prop :=
  ∃ a n c X, e = .returned (.slice a n c) ∧ n ≤ c ∧ ZOK w' a c ∧ Rd w' a n X ∧ WF X n ∧ Norm X n ∧ val X n = v ∧ Home w az zc a c ∧ Chg (zAddr az zc) w w'
theorem ZOK.chg {Z : Zone} {w w' : World} {a : Option Addr} {c : Nat} (h : ZOK w a c) (k : Chg Z w w') (hz : ∀ b o, zAddr a c b o → ¬ Z b o) : ZOK w' a c := by
  rcases h with h | ⟨b, o, rfl, h1, h2, h3⟩
  · exact Or.inl h
  · exact Or.inr ⟨b, o, rfl, h1.chg k, h2.chg k (fun i hi => hz b (o + i) ⟨o, rfl, by omega, by omega⟩), h3⟩
theorem ZOK.room {w : World} {a : Option Addr} {c : Nat} (h : ZOK w a c) (hc : 0 < c) : ∃ b o, a = some ⟨b, o, none⟩ ∧ PB w b ∧ Room w b o c := by
  rcases h with ⟨_, h⟩ | ⟨b, o, h1, h2, h3, _⟩
  · omega
  · exact ⟨b, o, h1, h2, h3⟩
theorem Home.zone {w : World} {az a : Option Addr} {zc c : Nat} (h : Home w az zc a c) : ∀ b o, b < w.heap.size → zAddr a c b o → zAddr az zc b o := by
  rintro b o hb ⟨p, rfl, h1, h2⟩
  rcases h with ⟨h3, h4⟩ | ⟨b', o', h3, h4⟩
  · exact ⟨p, h3 ▸ rfl, h1, by omega⟩
  · injection h3 with h3; injection h3 with h3; omega
theorem cell?_setInt {w : World} {b o : Nat} {b' o' : Nat} {y : Int} (v : Int) (h : w.cell? ⟨b, o, none⟩ = some (.int .u64 y)) :
    ∃ z : Int, (w.setCell ⟨b', o', none⟩ (.int .u64 v)).cell? ⟨b, o, none⟩ = some (.int .u64 z) := by
  by_cases e : (⟨b', o', none⟩ : Addr) = ⟨b, o, none⟩
  · rw [e]; exact ⟨v, World.cell?_setCell_same' _ _ _ (by rw [h]; rfl)⟩
  · exact ⟨y, by rw [World.cell?_setCell_other w _ _ _ e]; exact h⟩
theorem Room.setInt {w : World} {b o n : Nat} (h : Room w b o n) (b' o' : Nat) (v : Int) : Room (w.setCell ⟨b', o', none⟩ (.int .u64 v)) b o n := fun i hi => by
  obtain ⟨⟨y, hy⟩, hf⟩ := h i hi
  refine ⟨cell?_setInt v hy, ?_⟩
  rw [(chg_setCell w b' o' _).frozen hy]; exact hf
theorem ZOK.setInt {w : World} {a : Option Addr} {c : Nat} (h : ZOK w a c) (b' o' : Nat) (v : Int) : ZOK (w.setCell ⟨b', o', none⟩ (.int .u64 v)) a c := by
  rcases h with h | ⟨b, o, rfl, h1, h2, h3⟩
  · exact Or.inl h
  · exact Or.inr ⟨b, o, rfl, h1.chg (chg_setCell w b' o' _), h2.setInt b' o' v, h3⟩
set_option maxHeartbeats 1000000 in
theorem setWord_any (az : Option Addr) (zl zc : Nat) (x : Int) (w : World) (hz : ZOK w az zc) (hx : U64 x) :
    Calls Tryz.prog 130 #[.slice az zl zc, .int .u64 x] w (NatRes w az zc x) := by
  have Hx := Lib.hid hx
  have Hz := Lib.hid hz
  have hzc := hz.cap
  clear hx hz
  by_cases h0 : x = 0
  · have hb : (x == 0) = true := by simp [h0]
    have H0 := Lib.hid h0
    clear h0
    go_enter Tryz.func130, Tryz.ntmps130
    go_wp2
    go_ret
    exact ⟨az, 0, zc, fun _ => 0, rfl, Nat.zero_le _, Hz.out, Or.inl rfl, fun i hi => by omega, Or.inl rfl, by rw [H0.out]; rfl, Or.inl ⟨rfl, rfl⟩, Chg.refl _ _⟩
  · have hb : (x == 0) = false := by simp [h0]
    have H0 := Lib.hid h0
    clear h0
    go_enter Tryz.func130, Tryz.ntmps130
    go_wp2_with fail
    refine (make_any az zl zc 1 _ Hz.out (by omega)).mono ?_
    rintro e w1 ⟨a, c, rfl, h1, h2, h3, h4⟩
    obtain ⟨b, o, rfl, hb1, hroom⟩ := h2.room (by omega)
    obtain ⟨⟨x0, hc0⟩, hf0⟩ := hroom 0 (by omega)
    have H2 := Lib.hid h2
    have H3 := Lib.hid h3
    have H4 := Lib.hid h4
    have H1 := Lib.hid h1
    have hcap := h2.cap
    clear h1 h2 h3 h4 hroom
    simp only [Nat.add_zero] at hc0 hf0
    go_wp2
    go_ret
    have hcell : (w1.cell? ⟨b, o, none⟩).isSome = true := by rw [hc0]; rfl
    refine ⟨some ⟨b, o, none⟩, 1, c, fun _ => x, rfl, H1.out, ?_, Or.inr ⟨b, o, rfl, fun i hi => ?_⟩, fun i hi => Hx.out, Or.inr H0.out, by simp [val], H3.out, ?_⟩
    · exact H2.out.setInt b o x
    · obtain rfl : i = 0 := by omega
      exact World.cell?_setCell_same' _ _ _ hcell
    · refine (H4.out.mono (fun _ _ _ h => h.elim)).setCell b o _ (fun hb => ?_)
      exact H3.out.zone b o hb ⟨o, rfl, Nat.le_refl _, by have := H1.out; omega⟩
def Apart (az : Option Addr) (zc : Nat) (ax : Option Addr) (xn : Nat) : Prop := ax = az ∨ ∀ b o i, ax = some ⟨b, o, none⟩ → i < xn → ¬ zAddr az zc b (o + i)
set_option maxHeartbeats 2000000 in
theorem mulAddWW_any (az ax : Option Addr) (zl zc xn xc : Nat) (X : Nat → Int) (y r : Int) (w : World) (hz : ZOK w az zc) (hx : Rd w ax xn X) (hxw : WF X xn) (hxc : xn ≤ xc) (hxn : xn < 1099511627776) (hap : Apart az zc ax xn) (hy : U64 y) (hr : U64 r) :
    Calls Tryz.prog 164 #[.slice az zl zc, .slice ax xn xc, .int .u64 y, .int .u64 r] w (NatRes w az zc (val X xn * y + r)) := by
  have Hz := Lib.hid hz
  have Hx := Lib.hid hx
  have Hxw := Lib.hid hxw
  have Hap := Lib.hid hap
  have Hy := Lib.hid hy
  have Hr := Lib.hid hr
  have hzc := hz.cap
  clear hz hx hxw hap hy hr
  by_cases hm : xn = 0
  · have H0 := Lib.hid (show val X xn * y + r = r by rw [hm]; simp [val])
    subst hm
    go_enter Tryz.func164, Tryz.ntmps164
    go_wp2_with fail
    refine (setWord_any az zl zc r _ Hz.out Hr.out).mono ?_
    rintro e w1 ⟨a, n, c, Z, rfl, h1, h2, h3, h4, h5, h6, h7, h8⟩
    have H := Lib.hid (And.intro h1 (And.intro h2 (And.intro h3 (And.intro h4 (And.intro h5 (And.intro h6 (And.intro h7 h8)))))))
    clear h1 h2 h3 h4 h5 h6 h7 h8
    go_wp2
    go_ret
    exact ⟨a, n, c, Z, rfl, H.out.1, H.out.2.1, H.out.2.2.1, H.out.2.2.2.1, H.out.2.2.2.2.1, by rw [H0.out]; exact H.out.2.2.2.2.2.1, H.out.2.2.2.2.2.2.1, H.out.2.2.2.2.2.2.2⟩
  · have hmb : ((xn : Int) == 0) = false := by simp [hm]
    by_cases hy0 : y = 0
    · have hyb : (y == 0) = true := by simp [hy0]
      have H0 := Lib.hid (show val X xn * y + r = r by rw [hy0]; simp)
      clear hy0
      go_enter Tryz.func164, Tryz.ntmps164
      go_wp2_with fail
      refine (setWord_any az zl zc r _ Hz.out Hr.out).mono ?_
      rintro e w1 ⟨a, n, c, Z, rfl, h1, h2, h3, h4, h5, h6, h7, h8⟩
      have H := Lib.hid (And.intro h1 (And.intro h2 (And.intro h3 (And.intro h4 (And.intro h5 (And.intro h6 (And.intro h7 h8)))))))
      clear h1 h2 h3 h4 h5 h6 h7 h8
      go_wp2
      go_ret
      exact ⟨a, n, c, Z, rfl, H.out.1, H.out.2.1, H.out.2.2.1, H.out.2.2.2.1, H.out.2.2.2.2.1, by rw [H0.out]; exact H.out.2.2.2.2.2.1, H.out.2.2.2.2.2.2.1, H.out.2.2.2.2.2.2.2⟩
    · have hyb : (y == 0) = false := by simp [hy0]
      clear hy0
      obtain ⟨bx, ox, rfl, hX⟩ : ∃ bx ox, ax = some ⟨bx, ox, none⟩ ∧ Words w bx ox xn X := by
        rcases Hx.out with h | h
        · exact absurd h hm
        · exact h
      have HX := Lib.hid hX
      clear hX
      go_enter Tryz.func164, Tryz.ntmps164
      go_wp2_with fail
      rw [show ((xn : Int) + 1) = ((xn + 1 : Nat) : Int) from by omega]
      refine (make_any az zl zc (xn + 1) _ Hz.out (by omega)).mono ?_
      rintro e w1 ⟨a, c, rfl, h1, h2, h3, h4⟩
      obtain ⟨b, o, rfl, hb1, hroom⟩ := h2.room (by omega)
      have hcap := h2.cap
      have H := Lib.hid (And.intro h1 (And.intro h2 (And.intro h3 (And.intro h4 (And.intro hb1 hroom)))))
      have hxnc : xn ≤ c := by omega
      have hbx : bx < w.heap.size := lt_of_cell (HX.out 0 (by omega))
      have hX1 : Words w1 bx ox xn X := HX.out.chg h4 (fun i hi h => h.elim)
      have hfwd : Fwd bx ox b o xn := by
        rcases h3 with ⟨e1, e2⟩ | ⟨b', o', e1, e2⟩
        · rcases Hap.out with e3 | e3
          · rw [← e1] at e3; injection e3 with e3; injection e3 with e3 e4; exact Or.inr (Or.inl (by omega))
          · by_cases hbb : bx = b
            · subst hbb
              refine Or.inr ?_
              by_cases hle : o ≤ ox
              · exact Or.inl hle
              · refine Or.inr ?_
                by_cases hgt : ox + xn ≤ o
                · exact hgt
                · exact absurd ⟨o, e1.symm, by omega, by omega⟩ (e3 bx ox (o - ox) rfl (by omega))
            · exact Or.inl hbb
        · injection e1 with e1; injection e1 with e1; exact Or.inl (by omega)
      have HX1 := Lib.hid hX1
      have HF := Lib.hid hfwd
      clear h1 h2 h3 h4 hroom hX1 hfwd hbx
      go_wp2_with fail
      refine (mulAddVWW_any bx ox b o xn xc c X y r _ (by omega) HX1.out Hxw.out (H.out.2.2.2.2.2.le (by have := H.out.1; omega)) HF.out Hy.out Hr.out).mono ?_
      rintro e w2 ⟨cy, rfl, Z, q1, q2, q3, q4, q5⟩
      have Hq1 := Lib.hid q1
      have Hq2 := Lib.hid q2
      have Hq3 := Lib.hid q3
      have Hq4 := Lib.hid q4
      have Hq5 := Lib.hid q5
      clear q1 q2 q3 q4 q5
      have hnz : ∀ bb oo, zRow b o xn bb oo → zAddr (some ⟨b, o, none⟩) c bb oo := fun bb oo ⟨e1, e2, e3⟩ => ⟨o, by rw [e1], e2, by omega⟩
      have Hroom2 : Hid (Room w2 b (o + xn) (c - xn)) := (H.out.2.2.2.2.2.drop xn (c - xn) (by omega)).chg Hq1.out (fun i hi ⟨_, _, h3⟩ => by omega)
      have HZ2 : Hid (Room w2 b o xn) := Hq2.out.room (fun i hi => by
        obtain ⟨⟨z0, hz0⟩, hf0⟩ := H.out.2.2.2.2.2 i (by omega)
        rw [Hq1.out.frozen hz0]; exact hf0)
      obtain ⟨⟨z0, hz0⟩, hf0⟩ := Hroom2.out 0 (by have := H.out.1; omega)
      simp only [Nat.add_zero] at hz0 hf0
      clear hnz
      have Hnew : Hid (ZOK (w2.setCell ⟨b, o + xn, none⟩ (.int .u64 cy)) (some ⟨b, o, none⟩) c ∧ Words (w2.setCell ⟨b, o + xn, none⟩ (.int .u64 cy)) b o (xn + 1) (upd Z xn cy) ∧ Chg (zAddr az zc) w (w2.setCell ⟨b, o + xn, none⟩ (.int .u64 cy))) := by
        refine ⟨ZOK.setInt (Or.inr ⟨b, o, rfl, hb1.chg Hq1.out, ?_, hcap⟩) b (o + xn) cy, Hq2.out.snoc (by rw [hz0]; rfl), ?_⟩
        · have := HZ2.out.join Hroom2.out
          rwa [show xn + (c - xn) = c by omega] at this
        · have k1 : Chg (zAddr az zc) w w1 := H.out.2.2.2.1.mono (fun _ _ _ h => h.elim)
          have k2 : Chg (zAddr az zc) w w2 := k1.trans Hq1.out (fun bb oo hbb ⟨e1, e2, e3⟩ => H.out.2.2.1.zone bb oo hbb ⟨o, by rw [e1], e2, by omega⟩)
          exact k2.setCell b (o + xn) _ (fun hbb => H.out.2.2.1.zone b _ hbb ⟨o, rfl, by omega, by have := H.out.1; omega⟩)
      go_wp2_with fail
      refine (norm_any (some ⟨b, o, none⟩) (xn + 1) c (upd Z xn cy) _ (Or.inr ⟨b, o, rfl, Hnew.out.2.1⟩) (by have := H.out.1; omega) (by omega)).mono ?_
      rintro e w3 ⟨i, rfl, n1, n2, n3, rfl⟩
      have Hn1 := Lib.hid n1
      have Hn2 := Lib.hid n2
      have Hn3 := Lib.hid n3
      clear n1 n2 n3
      go_wp2
      go_ret
      have hw1 : WF (upd Z xn cy) (xn + 1) := WF_upd Hq3.out Hq4.out
      refine ⟨some ⟨b, o, none⟩, i, c, upd Z xn cy, rfl, by have := Hn1.out; have := H.out.1; omega, Hnew.out.1, Or.inr ⟨b, o, rfl, Hnew.out.2.1.le Hn1.out⟩, hw1.le Hn1.out, Hn3.out, ?_, H.out.2.2.1, Hnew.out.2.2⟩
      rw [← val_top Hn1.out Hn2.out]
      simp only [val]
      rw [val_upd, upd_same]
      exact Hq5.out
def MaxPowPost (b : Int) (w : World) (e : Ending) (w' : World) : Prop := ∃ n : Nat, e = .returned (.tuple #[.int .u64 (b ^ n), .int .i64 n]) ∧ 1 ≤ n ∧ n ≤ 63 ∧ b ^ n < 18446744073709551616 ∧ w = w'
theorem pow_ge_two (b : Int) (hb : 2 ≤ b) (n : Nat) : (2 : Int) ^ n ≤ b ^ n := by
  induction n with
  | zero => simp
  | succ n ih =>
    rw [Int.pow_succ, Int.pow_succ]
    exact Int.mul_le_mul ih hb (by omega) (Int.le_trans (Int.pow_nonneg (by omega)) ih)
theorem n_le_63 (b : Int) (hb : 2 ≤ b) (n : Nat) (h : b ^ n < 18446744073709551616) : n ≤ 63 := by
  by_cases hn : n ≤ 63
  · exact hn
  · exfalso
    have h1 := pow_ge_two b hb n
    have h2 : (2 : Int) ^ 64 ≤ 2 ^ n := by
      obtain ⟨k, rfl⟩ : ∃ k, n = 64 + k := ⟨n - 64, by omega⟩
      rw [Int.pow_add]
      have : (1 : Int) ≤ 2 ^ k := Int.pow_pos (by omega)
      have := Int.mul_le_mul_of_nonneg_left this (show (0 : Int) ≤ 2 ^ 64 by decide)
      simpa using this
    have : (2 : Int) ^ 64 = 18446744073709551616 := by decide
    omega
theorem pow_next (b p : Int) (n : Nat) (hb : 2 ≤ b) (hp : p = b ^ n) (hp0 : 0 ≤ p) (h : p ≤ 18446744073709551615 / b) : IntKind.u64.wrap (p * b) = b ^ (n + 1) ∧ b ^ (n + 1) < 18446744073709551616 ∧ 0 ≤ b ^ (n + 1) := by
  have h1 : p * b ≤ 18446744073709551615 := Int.le_trans (Int.mul_le_mul_of_nonneg_right h (by omega)) (Int.ediv_mul_le _ (by omega))
  have h0 : 0 ≤ p * b := Int.mul_nonneg hp0 (by omega)
  rw [wrap_u64, Int.pow_succ, ← hp]
  omega
set_option maxHeartbeats 1000000 in
theorem maxPow_any (b : Int) (w : World) (hb : 2 ≤ b) (hb2 : b ≤ 36) :
    Calls Tryz.prog 182 #[.int .u64 b] w (MaxPowPost b w) := by
  have hb0 : (b == 0) = false := by simp; omega
  obtain ⟨q, hq⟩ : ∃ q, (18446744073709551615 : Int) / b = q := ⟨_, rfl⟩
  have hq1 : (18446744073709551615 : Int).tdiv b = q := by rw [← hq]; exact Int.tdiv_eq_ediv_of_nonneg (by omega)
  have Hq := Lib.hid hq
  have hq2 : 0 ≤ q ∧ q ≤ 18446744073709551615 := by
    rw [← hq]; exact ⟨Int.ediv_nonneg (by omega) (by omega), Int.ediv_le_self _ (by omega)⟩
  obtain ⟨hq3, hq4⟩ := hq2
  go_enter Tryz.func182, Tryz.ntmps182
  go_wp2_with fail
  go_loop [2, 3] (fun sp sn => ∃ (n : Nat) (p : Int), sp = .int .u64 p ∧ sn = .int .i64 n ∧ 1 ≤ n ∧ n ≤ 63 ∧ 0 ≤ p ∧ p ≤ 18446744073709551615 ∧ Hid (p = b ^ n)) (fun sp sn => 64 - (intOf sn).toNat)
  case atStart => exact ⟨1, b, rfl, rfl, by omega, by omega, by omega, by omega, (show b = b ^ (0 + 1) by rw [Int.pow_succ, Int.pow_zero, Int.one_mul])⟩
  case round =>
    obtain ⟨n, p, rfl, rfl, hn1, hn2, hp0, hp1, H⟩ := hrel
    by_cases hle : p ≤ q
    · have hx := pow_next b p n hb H.out hp0 (by rw [Hq.out]; exact hle)
      have HX := Lib.hid hx
      clear hx
      go_wp2
      go_round
      case rel => exact ⟨n + 1, _, rfl, by go_num, by omega, n_le_63 b hb _ HX.out.2.1, by rw [HX.out.1]; exact HX.out.2.2, by rw [HX.out.1]; have := HX.out.2.1; omega, HX.out.1⟩
      case measure => simp [intOf]; have := n_le_63 b hb _ HX.out.2.1; omega
    · go_wp2
      go_ret2
      exact ⟨n, by rw [← H.out]; rfl, hn1, hn2, by rw [← H.out]; omega, rfl⟩
theorem pow_emod (a m : Int) (k : Nat) : (a % m) ^ k % m = a ^ k % m := by
  induction k with
  | zero => simp
  | succ k ih => rw [Int.pow_succ, Int.pow_succ, Int.mul_emod, ih, Int.emod_emod, ← Int.mul_emod]
theorem pow_step_odd (p x : Int) (k : Nat) (hk : k % 2 = 1) : ((p * x) % 18446744073709551616) * ((x * x) % 18446744073709551616) ^ (k / 2) % 18446744073709551616 = p * x ^ k % 18446744073709551616 := by
  have hk2 : k = 2 * (k / 2) + 1 := by omega
  generalize k / 2 = j at *
  subst hk2
  rw [Int.mul_emod, pow_emod, Int.emod_emod, ← Int.mul_emod]
  congr 1
  rw [Int.pow_succ, Int.pow_mul]
  have : x ^ 2 = x * x := by rw [Int.pow_succ, Int.pow_succ, Int.pow_zero, Int.one_mul]
  rw [this]
  grind
theorem pow_step_even (p x : Int) (k : Nat) (hk : k % 2 = 0) : p * ((x * x) % 18446744073709551616) ^ (k / 2) % 18446744073709551616 = p * x ^ k % 18446744073709551616 := by
  have hk2 : k = 2 * (k / 2) := by omega
  generalize k / 2 = j at *
  subst hk2
  rw [Int.mul_emod, pow_emod, ← Int.mul_emod]
  congr 1
  rw [Int.pow_mul]
  have : x ^ 2 = x * x := by rw [Int.pow_succ, Int.pow_succ, Int.pow_zero, Int.one_mul]
  rw [this]
theorem and_one (k : Nat) (h : k < 9223372036854775808) : bits BinOp.and IntKind.i64 (k : Int) 1 = ((k % 2 : Nat) : Int) := by
  have h1 : (BitVec.ofInt 64 1).toNat = 2 ^ 1 - 1 := by decide
  have key : (BitVec.ofInt 64 (k : Int) &&& BitVec.ofInt 64 1).toNat = ((k : Int) % ((2 ^ 64 : Nat) : Int)).toNat % 2 ^ 1 := by
    rw [BitVec.toNat_and, BitVec.toNat_ofInt, h1, Nat.and_two_pow_sub_one_eq_mod]
  show IntKind.i64.wrap ((BitVec.ofInt 64 (k : Int) &&& BitVec.ofInt 64 1).toNat : Nat) = _
  rw [key, IntKind.wrap_i64]
  omega
set_option maxHeartbeats 1000000 in
theorem pow_any (b : Int) (n : Nat) (w : World) (hb : U64 b) (hn : n ≤ 1000) (hlt : b ^ n < 18446744073709551616) :
    Calls Tryz.prog 183 #[.int .u64 b, .int .i64 n] w fun e w' => e = .returned (.int .u64 (b ^ n)) ∧ w = w' := by
  obtain ⟨hb0, hb1⟩ := hb
  have Hlt := Lib.hid hlt
  clear hlt
  go_enter Tryz.func183, Tryz.ntmps183
  go_wp2_with fail
  go_loop [0, 1, 4] (fun sx sk sp => ∃ (x p : Int) (k : Nat), sx = .int .u64 x ∧ sk = .int .i64 k ∧ sp = .int .u64 p ∧ k ≤ 1000 ∧ 0 ≤ p ∧ p < 18446744073709551616 ∧ 0 ≤ x ∧ x < 18446744073709551616 ∧ Hid (p * x ^ k % 18446744073709551616 = b ^ n % 18446744073709551616)) (fun _ sk _ => (intOf sk).toNat)
  case atStart => exact ⟨b, 1, n, rfl, rfl, rfl, hn, by omega, by omega, hb0, hb1, by simp [Hid]⟩
  case round =>
    obtain ⟨x, p, k, rfl, rfl, rfl, hk, hp0, hp1, hx0, hx1, H⟩ := hrel
    by_cases h0 : 0 < k
    · have ha := and_one k (by omega)
      have h2 : k % 2 = 0 ∨ k % 2 = 1 := by omega
      rcases h2 with h2 | h2
      · rw [h2] at ha
        have hab : (bits BinOp.and IntKind.i64 (k : Int) 1 != 0) = false := by rw [ha]; rfl
        have H2 := Lib.hid h2
        clear h2 ha
        go_wp2
        go_round
        case rel => exact ⟨_, p, k / 2, rfl, by rw [Int.natCast_ediv]; rfl, rfl, by omega, hp0, hp1, by rw [wrap_u64]; omega, by rw [wrap_u64]; omega, by unfold Hid; rw [wrap_u64, pow_step_even p x k H2.out]; exact H.out⟩
        case measure => simp [intOf]; omega
      · rw [h2] at ha
        have hab : (bits BinOp.and IntKind.i64 (k : Int) 1 != 0) = true := by rw [ha]; rfl
        have H2 := Lib.hid h2
        clear h2 ha
        go_wp2
        go_round
        case rel => exact ⟨_, _, k / 2, rfl, by rw [Int.natCast_ediv]; rfl, rfl, by omega, by rw [wrap_u64]; omega, by rw [wrap_u64]; omega, by rw [wrap_u64]; omega, by rw [wrap_u64]; omega, by unfold Hid; rw [wrap_u64, wrap_u64, pow_step_odd p x k H2.out]; exact H.out⟩
        case measure => simp [intOf]; omega
    · have hk0 : k = 0 := by omega
      have hp : Hid (p = b ^ n) := by
        have := H.out
        rw [hk0, Int.pow_zero, Int.mul_one, Int.emod_eq_of_lt hp0 hp1, Int.emod_eq_of_lt (Int.pow_nonneg hb0) Hlt.out] at this
        exact this
      have hd : decide (0 < (k : Int)) = false := by simp; omega
      clear hk0
      go_wp2
      go_ret
      exact ⟨by rw [← hp.out]; rfl, rfl⟩
def RdAt (w : World) (br : Nat) (s : ByteArray) (i : Nat) : Prop :=
  w.cell? ⟨br, 0, none⟩ = some (.string s) ∧ w.cell? ⟨br, 1, none⟩ = some (.int .i64 i) ∧ (∃ p : Int, w.cell? ⟨br, 2, none⟩ = some (.int .i64 p)) ∧
  w.frozen? ⟨br, 1, none⟩ = false ∧ w.frozen? ⟨br, 2, none⟩ = false
theorem RdAt.chg {Z : Zone} {w w' : World} {br : Nat} {s : ByteArray} {i : Nat} (h : RdAt w br s i) (k : Chg Z w w') (hz : ∀ o, o < 3 → ¬ Z br o) : RdAt w' br s i := by
  obtain ⟨h0, h1, ⟨p, h2⟩, h3, h4⟩ := h
  exact ⟨k.cell h0 (hz 0 (by omega)), k.cell h1 (hz 1 (by omega)), ⟨p, k.cell h2 (hz 2 (by omega))⟩, by rw [k.frozen h0]; exact h3, by rw [k.frozen h0]; exact h4⟩
theorem cs_other {w : World} {b o o' : Nat} {v : Value} (h : o ≠ o') : (w.setCell ⟨b, o, none⟩ v).cell? ⟨b, o', none⟩ = w.cell? ⟨b, o', none⟩ :=
  World.cell?_setCell_other w _ _ _ (by intro e; injection e with _ e2 _; exact h e2)
theorem cs_same {w : World} {b o : Nat} {u v : Value} (h : w.cell? ⟨b, o, none⟩ = some u) : (w.setCell ⟨b, o, none⟩ v).cell? ⟨b, o, none⟩ = some v :=
  World.cell?_setCell_same' _ _ _ (by rw [h]; rfl)
theorem fz_set {w : World} {b o o' : Nat} {v : Value} {b' : Nat} : (w.setCell ⟨b, o, none⟩ v).frozen? ⟨b', o', none⟩ = w.frozen? ⟨b', o', none⟩ := World.frozen?_setCell ..
theorem rd_prev {w : World} {br : Nat} {s : ByteArray} {i : Nat} (h : RdAt w br s i) (q : Int) : RdAt (w.setCell ⟨br, 2, none⟩ (.int .i64 q)) br s i := by
  obtain ⟨h0, h1, ⟨p, h2⟩, h3, h4⟩ := h
  exact ⟨by rw [cs_other (by decide)]; exact h0, by rw [cs_other (by decide)]; exact h1, ⟨q, cs_same h2⟩, by rw [fz_set]; exact h3, by rw [fz_set]; exact h4⟩
theorem rd_move {w : World} {br : Nat} {s : ByteArray} {i : Nat} (h : RdAt w br s i) (j : Nat) : RdAt (w.setCell ⟨br, 1, none⟩ (.int .i64 j)) br s j := by
  obtain ⟨h0, h1, ⟨p, h2⟩, h3, h4⟩ := h
  exact ⟨by rw [cs_other (by decide)]; exact h0, cs_same h1, ⟨p, by rw [cs_other (by decide)]; exact h2⟩, by rw [fz_set]; exact h3, by rw [fz_set]; exact h4⟩
theorem rd_draw {w : World} {br : Nat} {s : ByteArray} {i : Nat} (h : RdAt w br s i) (n : Nat) : RdAt (w.drewN n) br s i := h
theorem chg_prev {w : World} (br : Nat) (q : Value) : Chg (zRow br 1 2) w (w.setCell ⟨br, 2, none⟩ q) := (Chg.refl _ _).setCell br 2 q (fun _ => ⟨rfl, by decide, by decide⟩)
def ReadPost (w : World) (br : Nat) (s : ByteArray) (i : Nat) (v err : Value) (e : Ending) (w' : World) : Prop :=
  e = .returned (.tuple #[v, err]) ∧ RdAt w' br s i ∧ Chg (zRow br 1 2) w w'
set_option maxHeartbeats 1000000 in
theorem ReadByte_more (br : Nat) (s : ByteArray) (i : Nat) (w : World) (h : RdAt w br s i) (hi : i < s.size) (hs : s.size < 4611686018427387904) :
    Calls Tryz.prog 113 #[.pointer (some ⟨br, 0, none⟩)] w (ReadPost w br s (i + 1) (.int .u8 (s[i]'hi).toNat) .nilIface) := by
  have hh := h
  obtain ⟨h0, h1, ⟨p, h2⟩, h3, h4⟩ := h
  have HH := Lib.hid hh
  clear hh
  have hge : decide ((s.size : Int) ≤ (i : Int)) = false := by simp; omega
  go_enter Tryz.func113, Tryz.ntmps113
  go_wp2_with fail
  go_quiet (fail)
  go_wp2_with fail
  go_quiet (fail)
  go_wp2_with fail
  go_ret2
  refine ⟨rfl, ?_, ?_⟩
  · exact rd_move (rd_draw (rd_prev HH.out _) _) (i + 1)
  · exact ((chg_prev br _).drewN _).setCell br 1 _ (fun _ => ⟨rfl, by decide, by decide⟩)
set_option maxHeartbeats 1000000 in
theorem ReadByte_end (br : Nat) (s : ByteArray) (i : Nat) (eof : Value) (w : World) (h : RdAt w br s i) (hi : s.size ≤ i) (hs : i < 4611686018427387904) (hbr : br ≠ 0) (hE : w.cell? ⟨0, 0, none⟩ = some eof) :
    Calls Tryz.prog 113 #[.pointer (some ⟨br, 0, none⟩)] w (ReadPost w br s i (.int .u8 0) eof) := by
  have hh := h
  obtain ⟨h0, h1, ⟨p, h2⟩, h3, h4⟩ := h
  have HH := Lib.hid hh
  clear hh
  have hge : decide ((s.size : Int) ≤ (i : Int)) = true := by simp; omega
  go_enter Tryz.func113, Tryz.ntmps113
  go_wp2_with fail
  go_quiet (fail)
  go_wp2_with fail
  go_quiet (fail)
  go_wp2_with fail
  go_ret2
  refine ⟨rfl, ?_, ?_⟩
  · exact rd_draw (rd_draw (rd_prev HH.out _) _) _
  · exact ((chg_prev br _).drewN _).drewN _
set_option maxHeartbeats 1000000 in
theorem UnreadByte_any (br : Nat) (s : ByteArray) (i : Nat) (w : World) (h : RdAt w br s (i + 1)) (hs : i < 4611686018427387904) :
    Calls Tryz.prog 316 #[.pointer (some ⟨br, 0, none⟩)] w fun e w' => e = .returned .nilIface ∧ RdAt w' br s i ∧ Chg (zRow br 1 2) w w' := by
  have HH := Lib.hid h
  obtain ⟨h0, h1, ⟨p, h2⟩, h3, h4⟩ := h
  go_enter Tryz.func316, Tryz.ntmps316
  go_wp2
  go_ret
  refine ⟨rfl, rd_move (rd_prev HH.out _) i, ?_⟩
  exact (chg_prev br _).setCell br 1 _ (fun _ => ⟨rfl, by decide, by decide⟩)
theorem NewReader_any (s : ByteArray) (w : World) :
    Calls Tryz.prog 111 #[.string s] w fun e w' => e = .returned (.pointer (some ⟨w.heap.size, 0, none⟩)) ∧ w.alloc (.cells #[.string s, .int .i64 0, .int .i64 (-1)] 225) = w' := by
  go_enter Tryz.func111, Tryz.ntmps111
  go_wp2
  go_ret
  exact ⟨rfl, rfl⟩
def byteAt (s : ByteArray) (i : Nat) : Int := (s.data.toList.getD i 0).toNat
theorem byteAt_eq (s : ByteArray) (i : Nat) (hi : i < s.size) : ((s[i]'hi).toNat : Int) = byteAt s i := by
  unfold byteAt
  rw [List.getD_eq_getElem?_getD, List.getElem?_eq_getElem (by simpa using hi)]
  rfl
theorem byteAt_range (s : ByteArray) (i : Nat) : 0 ≤ byteAt s i ∧ byteAt s i ≤ 255 := by
  unfold byteAt
  have := (s.data.toList.getD i 0).toNat_lt
  omega
theorem read_more (br : Nat) (s : ByteArray) (i : Nat) (c : Int) (w : World) (h : RdAt w br s i) (hi : i < s.size) (hs : s.size < 4611686018427387904) (hc : byteAt s i = c) :
    Calls Tryz.prog 113 #[.pointer (some ⟨br, 0, none⟩)] w (ReadPost w br s (i + 1) (.int .u8 c) .nilIface) := by
  rw [← hc, ← byteAt_eq s i hi]
  exact ReadByte_more br s i w h hi hs
theorem method_read (a : Addr) (w : World) : (method 442 169 (.pointer (some a)) "ReadByte").run Tryz.prog w = .ok (113, .pointer (some a)) w := by kernel_rfl
theorem method_unread (a : Addr) (w : World) : (method 442 169 (.pointer (some a)) "UnreadByte").run Tryz.prog w = .ok (316, .pointer (some a)) w := by kernel_rfl
def signAt (s : ByteArray) (i : Nat) : Bool × Nat := if byteAt s i = 45 then (true, i + 1) else if byteAt s i = 43 then (false, i + 1) else (false, i)
set_option maxHeartbeats 1000000 in
theorem scanSign_more (br : Nat) (s : ByteArray) (i : Nat) (w : World) (h : RdAt w br s i) (hi : i < s.size) (hs : s.size < 4611686018427387904) :
    Calls Tryz.prog 127 #[.iface 169 (.pointer (some ⟨br, 0, none⟩))] w (ReadPost w br s (signAt s i).2 (.bool (signAt s i).1) .nilIface) := by
  have H := Lib.hid h
  clear h
  have hr := method_read
  have hu := method_unread
  obtain ⟨c, hc⟩ : ∃ c, byteAt s i = c := ⟨_, rfl⟩
  have Hc := Lib.hid hc
  have hcr := byteAt_range s i
  rw [hc] at hcr
  obtain ⟨hc0, hc1⟩ := hcr
  clear hc
  by_cases h45 : c = 45
  · have HS := Lib.hid (show signAt s i = (true, i + 1) by unfold signAt; rw [Hc.out, if_pos h45])
    have b1 : (c == 45) = true := by simp [h45]
    clear h45
    go_enter Tryz.func127, Tryz.ntmps127
    go_wp2_with fail
    refine (read_more br s i c _ H.out hi hs Hc.out).mono ?_
    rintro e w1 ⟨rfl, h1, h2⟩
    have H1 := Lib.hid (And.intro h1 h2)
    clear h1 h2
    go_wp2
    go_ret2
    exact ⟨by rw [HS.out]; rfl, by rw [HS.out]; exact H1.out.1, H1.out.2⟩
  · by_cases h43 : c = 43
    · have HS := Lib.hid (show signAt s i = (false, i + 1) by unfold signAt; rw [Hc.out, if_neg h45, if_pos h43])
      have b1 : (c == 45) = false := by simp [h45]
      have b2 : (c == 43) = true := by simp [h43]
      clear h45 h43
      go_enter Tryz.func127, Tryz.ntmps127
      go_wp2_with fail
      refine (read_more br s i c _ H.out hi hs Hc.out).mono ?_
      rintro e w1 ⟨rfl, h1, h2⟩
      have H1 := Lib.hid (And.intro h1 h2)
      clear h1 h2
      go_wp2
      go_ret2
      exact ⟨by rw [HS.out]; rfl, by rw [HS.out]; exact H1.out.1, H1.out.2⟩
    · have HS := Lib.hid (show signAt s i = (false, i) by unfold signAt; rw [Hc.out, if_neg h45, if_neg h43])
      have b1 : (c == 45) = false := by simp [h45]
      have b2 : (c == 43) = false := by simp [h43]
      clear h45 h43
      go_enter Tryz.func127, Tryz.ntmps127
      go_wp2_with fail
      refine (read_more br s i c _ H.out hi hs Hc.out).mono ?_
      rintro e w1 ⟨rfl, h1, h2⟩
      have H1 := Lib.hid (And.intro h1 h2)
      clear h1 h2
      go_wp2_with fail
      refine (UnreadByte_any br s i _ H1.out.1 (by omega)).mono ?_
      rintro e w2 ⟨rfl, h1, h2⟩
      have H2 := Lib.hid (And.intro h1 (H1.out.2.trans h2 (fun _ _ _ h => h)))
      clear h1 h2
      go_wp2
      go_ret2
      exact ⟨by rw [HS.out]; rfl, by rw [HS.out]; exact H2.out.1, H2.out.2⟩
set_option maxHeartbeats 1000000 in
theorem scanSign_end (br : Nat) (s : ByteArray) (i : Nat) (t : TypeId) (v : Value) (w : World) (h : RdAt w br s i) (hi : s.size ≤ i) (hs : i < 4611686018427387904) (hbr : br ≠ 0) (hE : w.cell? ⟨0, 0, none⟩ = some (.iface t v)) :
    Calls Tryz.prog 127 #[.iface 169 (.pointer (some ⟨br, 0, none⟩))] w (ReadPost w br s i (.bool false) (.iface t v)) := by
  have H := Lib.hid h
  have HE := Lib.hid hE
  clear h hE
  have hr := method_read
  go_enter Tryz.func127, Tryz.ntmps127
  go_wp2_with fail
  refine (ReadByte_end br s i _ _ H.out hi hs hbr HE.out).mono ?_
  rintro e w1 ⟨rfl, h1, h2⟩
  have H1 := Lib.hid (And.intro h1 h2)
  clear h1 h2
  go_wp2
  go_ret2
  exact ⟨rfl, H1.out.1, H1.out.2⟩
structure SS where
  prev : Int
  inval : Bool
  frac : Bool
  cnt : Nat
  dp : Int
  V : Int
def digOf (c : Int) : Int := if 48 ≤ c ∧ c ≤ 57 then c - 48 else if 97 ≤ c ∧ c ≤ 122 then c - 87 else if 65 ≤ c ∧ c ≤ 90 then c - 55 else 63
def stepS (b0 : Bool) (b : Int) (st : SS) (c : Int) : Option SS :=
  if c = 46 ∧ st.frac = true then some { st with frac := false, inval := st.inval || st.prev == 95, prev := 46, dp := st.cnt }
  else if c = 95 ∧ b0 = true then some { st with inval := st.inval || st.prev != 48, prev := 95 }
  else if digOf c < b then some { st with prev := 48, cnt := st.cnt + 1, V := st.V * b + digOf c }
  else none
def runF (b0 : Bool) (b : Int) (s : ByteArray) : Nat → Nat → SS → Nat × SS
  | 0, p, st => (p, st)
  | k + 1, p, st =>
    match stepS b0 b st (byteAt s p) with
    | none => (p, st)
    | some st' => runF b0 b s k (p + 1) st'
def runS (b0 : Bool) (b : Int) (s : ByteArray) (p : Nat) (st : SS) : Nat × SS := runF b0 b s (s.size - p) p st
theorem runS_end {b0 : Bool} {b : Int} {s : ByteArray} {p : Nat} {st : SS} (h : s.size ≤ p) : runS b0 b s p st = (p, st) := by
  unfold runS; rw [show s.size - p = 0 by omega]; rfl
theorem runS_stop {b0 : Bool} {b : Int} {s : ByteArray} {p : Nat} {st : SS} (h : p < s.size) (hs : stepS b0 b st (byteAt s p) = none) : runS b0 b s p st = (p, st) := by
  unfold runS; rw [show s.size - p = (s.size - (p + 1)) + 1 by omega]; simp only [runF, hs]
theorem runS_step {b0 : Bool} {b : Int} {s : ByteArray} {p : Nat} {st st' : SS} (h : p < s.size) (hs : stepS b0 b st (byteAt s p) = some st') : runS b0 b s p st = runS b0 b s (p + 1) st' := by
  unfold runS; rw [show s.size - p = (s.size - (p + 1)) + 1 by omega]; simp only [runF, hs]
structure Pre where
  b : Int
  pf : Int
  p : Nat
  prev : Int
  cnt : Nat
def preS (base : Int) (frac : Bool) (s : ByteArray) (p : Nat) : Pre :=
  if base ≠ 0 then ⟨base, 0, p, 46, 0⟩
  else if p < s.size ∧ byteAt s p = 48 then
    if p + 1 < s.size then
      if byteAt s (p + 1) = 98 ∨ byteAt s (p + 1) = 66 then ⟨2, 98, p + 2, 48, 0⟩
      else if byteAt s (p + 1) = 111 ∨ byteAt s (p + 1) = 79 then ⟨8, 111, p + 2, 48, 0⟩
      else if byteAt s (p + 1) = 120 ∨ byteAt s (p + 1) = 88 then ⟨16, 120, p + 2, 48, 0⟩
      else if frac = true then ⟨10, 0, p + 1, 48, 1⟩ else ⟨8, 48, p + 1, 48, 0⟩
    else ⟨10, 0, p + 1, 48, 1⟩
  else ⟨10, 0, p, 46, 0⟩
def startS (base : Int) (frac : Bool) (s : ByteArray) (p : Nat) : SS := ⟨(preS base frac s p).prev, false, frac, (preS base frac s p).cnt, -1, 0⟩
def lastS (base : Int) (frac : Bool) (s : ByteArray) (p : Nat) : Nat × SS := runS (base == 0) (preS base frac s p).b s (preS base frac s p).p (startS base frac s p)
structure Scan where
  V : Int
  b : Int
  cnt : Int
  err : Nat
  p : Nat
def sepOf (st : SS) : Bool := st.inval || st.prev == 95
def scanS (base : Int) (frac : Bool) (s : ByteArray) (p : Nat) : Scan :=
  let pr := preS base frac s p
  let (q, st) := lastS base frac s p
  if st.cnt = 0 ∧ pr.pf = 48 then ⟨0, 10, 1, if sepOf st then 1 else 0, q⟩
  else ⟨st.V, pr.b, if 0 ≤ st.dp then st.dp - st.cnt else st.cnt, if st.cnt = 0 then 2 else if sepOf st then 1 else 0, q⟩
structure RunOK (b : Int) (s : ByteArray) (q : Nat) (st : SS) : Prop where
  hq : q ≤ s.size
  hc : st.cnt ≤ q
  hV0 : 0 ≤ st.V
  hV : st.V < b ^ st.cnt
  hdp : -1 ≤ st.dp ∧ st.dp ≤ st.cnt
theorem digOf_nonneg {c : Int} : 0 ≤ digOf c := by unfold digOf; split <;> (try split) <;> (try split) <;> omega
theorem RunOK.step {b0 : Bool} {b : Int} {s : ByteArray} {q : Nat} {st st' : SS} (h : RunOK b s q st) (hb : 2 ≤ b) (hq : q < s.size) (hs : stepS b0 b st (byteAt s q) = some st') : RunOK b s (q + 1) st' := by
  obtain ⟨h1, h2, h3, h4, h5⟩ := h
  unfold stepS at hs
  split at hs
  · injection hs with hs; subst hs; exact ⟨by omega, by simp only; omega, h3, h4, by simp only; omega⟩
  · split at hs
    · injection hs with hs; subst hs; exact ⟨by omega, by simp only; omega, h3, h4, h5⟩
    · split at hs
      · rename_i hd
        injection hs with hs; subst hs
        have h0 := digOf_nonneg (c := byteAt s q)
        refine ⟨by omega, by simp only; omega, ?_, ?_, by simp only; omega⟩
        · have := Int.mul_nonneg h3 (show (0:Int) ≤ b by omega)
          simp only; omega
        · simp only
          rw [Int.pow_succ]
          have := Int.mul_le_mul_of_nonneg_right (show st.V ≤ b ^ st.cnt - 1 by omega) (show (0:Int) ≤ b by omega)
          rw [Int.sub_mul] at this
          omega
      · cases hs
end Go.Proofs.YtmgfajamanakcaaGreatDoor
