/- Part of the proof of FnParse: what the functions that it reaches do, as contracts. Conditions: those that each theorem names. -/
import Derived.Test.YtmgfajamanakcaaGreatDoorD02
import Derived.Deep.LoopGhost
import Derived.CellFam
import Derived.Deep.QuietTactic
import Derived.Deep.Draws
namespace Go.Proofs.YtmgfajamanakcaaGreatDoor
set_option linter.unusedVariables false
set_option linter.unusedSimpArgs false
open Go.RowKit
set_option maxRecDepth 100000
def Fwd (bx ox bz oz n : Nat) : Prop := bx ≠ bz ∨ oz ≤ ox ∨ ox + n ≤ oz
def OneWord (P : Int → World → Prop) (e : Ending) (w' : World) : Prop := ∃ c : Int, e = .returned (.int .u64 c) ∧ P c w'
def MulAddPost (w : World) (bz oz n : Nat) (X : Nat → Int) (y r c : Int) (w' : World) : Prop :=
  ∃ Z, Chg (zRow bz oz n) w w' ∧ Words w' bz oz n Z ∧ WF Z n ∧ U64 c ∧ val Z n + c * BB ^ n = val X n * y + r
theorem fwd_keep {w wr : World} {bx ox bz oz n k : Nat} {v : Value} (hf : Fwd bx ox bz oz n) (hk : k < n) (hc : Chg (zRow bz oz k) w wr) (hx : w.cell? ⟨bx, ox + k, none⟩ = some v) : wr.cell? ⟨bx, ox + k, none⟩ = some v :=
  hc.cell hx (by rintro ⟨h1, h2, h3⟩; rcases hf with h | h | h <;> omega)
theorem muladd_step {X Z : Nat → Int} {y r c xk hi lo : Int} {k : Nat} (h : val Z k + c * BB ^ k = val X k * y + r) (hx : X k = xk) (hz : Z k = lo) (hp : hi * BB + lo = xk * y + c) :
    val Z (k + 1) + hi * BB ^ (k + 1) = val X (k + 1) * y + r := by
  simp only [val, hx, hz, BB_succ]
  grind
def upd (Z : Nat → Int) (k : Nat) (v : Int) : Nat → Int := fun i => if i = k then v else Z i
theorem upd_same (Z : Nat → Int) (k : Nat) (v : Int) : upd Z k v k = v := by simp [upd]
theorem upd_other (Z : Nat → Int) {k i : Nat} (v : Int) (h : i ≠ k) : upd Z k v i = Z i := by simp [upd, h]
theorem val_upd (Z : Nat → Int) (k : Nat) (v : Int) : val (upd Z k v) k = val Z k := val_congr fun i hi => upd_other Z v (by omega)
theorem WF_upd {Z : Nat → Int} {k : Nat} {v : Int} (h : WF Z k) (hv : U64 v) : WF (upd Z k v) (k + 1) := fun i hi => by
  by_cases hik : i = k
  · subst hik; rw [upd_same]; exact hv
  · rw [upd_other Z v hik]; exact h i (by omega)
theorem Words.snoc {w : World} {b off k : Nat} {Z : Nat → Int} {v : Int} (h : Words w b off k Z) (hc : (w.cell? ⟨b, off + k, none⟩).isSome = true) :
    Words (w.setCell ⟨b, off + k, none⟩ (.int .u64 v)) b off (k + 1) (upd Z k v) := fun i hi => by
  by_cases hik : i = k
  · subst hik; rw [upd_same]; exact World.cell?_setCell_same' _ _ _ hc
  · rw [upd_other Z v hik]
    have e : (w.setCell ⟨b, off + k, none⟩ (.int .u64 v)).cell? ⟨b, off + i, none⟩ = w.cell? ⟨b, off + i, none⟩ := World.cell?_setCell_other w _ _ _ (by intro h; injection h with _ h2 _; omega)
    rw [e]; exact h i (by omega)
theorem chg_snoc {w wr : World} {b off k : Nat} (h : Chg (zRow b off k) w wr) (v : Value) : Chg (zRow b off (k + 1)) w (wr.setCell ⟨b, off + k, none⟩ v) :=
  (h.mono (fun _ _ _ hz => ⟨hz.1, hz.2.1, by have := hz.2.2; omega⟩)).setCell b (off + k) v (fun _ => ⟨rfl, by omega, by omega⟩)
set_option maxHeartbeats 2000000 in
theorem mulAddVWW_g_any (bx ox bz oz n cx cz : Nat) (X : Nat → Int) (y r : Int) (w : World) (hn : n < 4611686018427387904) (hX : Words w bx ox n X) (hXw : WF X n) (hz : Room w bz oz n) (hf : Fwd bx ox bz oz n) (hy : U64 y) (hr : U64 r) :
    Calls Tryz.prog 246 #[.slice (some ⟨bz, oz, none⟩) n cz, .slice (some ⟨bx, ox, none⟩) n cx, .int .u64 y, .int .u64 r] w (OneWord (MulAddPost w bz oz n X y r)) := by
  have Hy := Lib.hid hy
  have Hr := Lib.hid hr
  have HX := Lib.hid hX
  have HXw := Lib.hid hXw
  have Hz := Lib.hid hz
  have Hf := Lib.hid hf
  clear hy hr hX hXw hz hf
  go_enter Tryz.func246, Tryz.ntmps246
  go_wp2_with fail
  go_loopw [8, 19] (fun sc si wr => ∃ (k : Nat) (c : Int) (Z : Nat → Int), si = .int .i64 k ∧ sc = .int .u64 c ∧ k ≤ n ∧ Hid (Chg (zRow bz oz k) w wr ∧ Words wr bz oz k Z ∧ WF Z k ∧ U64 c ∧ val Z k + c * BB ^ k = val X k * y + r)) (fun sc si _ => n - (intOf si).toNat)
  case atStart => exact ⟨0, r, fun _ => 0, rfl, rfl, Nat.zero_le _, Chg.refl _ _, fun i hi => by omega, fun i hi => by omega, Hr.out, by simp [val]⟩
  case round =>
    obtain ⟨k, c, Z, rfl, rfl, hk, H⟩ := hrel
    by_cases hlt : k < n
    · have hxk := fwd_keep Hf.out hlt H.out.1 (HX.out k hlt)
      obtain ⟨⟨zk, hzk0⟩, hzf0⟩ := Hz.out k hlt
      have hzk1 := H.out.1.isCell (by rw [hzk0]; rfl)
      obtain ⟨zv, hzk⟩ := Option.isSome_iff_exists.1 hzk1
      have hzf := (H.out.1.frozen hzk0 (oz + k)).trans hzf0
      clear hzk0 hzf0 hzk1
      obtain ⟨xk, hxe⟩ : ∃ x, X k = x := ⟨_, rfl⟩
      rw [hxe] at hxk
      have Hxe := Lib.hid hxe
      have hxw : Hid (U64 xk) := by rw [← hxe]; exact HXw.out k hlt
      clear hxe
      go_wp2_with fail
      refine (mulAddWWW_any xk y c _ hxw.out Hy.out H.out.2.2.2.1).mono ?_
      rintro e w' ⟨hi, lo, rfl, hp, rfl⟩
      have Hp := Lib.hid hp
      clear hp
      go_wp2
      go_roundw
      case rel =>
        refine ⟨k + 1, hi, upd Z k lo, by go_num, rfl, hlt, chg_snoc H.out.1 _, H.out.2.1.snoc (by rw [hzk]; rfl), WF_upd H.out.2.2.1 Hp.out.2.1, Hp.out.1, ?_⟩
        exact muladd_step (by rw [val_upd]; exact H.out.2.2.2.2) Hxe.out (upd_same _ _ _) Hp.out.2.2
      case measure => simp [intOf]; omega
    · have hkn : Hid (k = n) := by unfold Hid; omega
      go_wp2
      go_ret
      have e := hkn.out
      subst e
      exact ⟨c, rfl, Z, H.out⟩
theorem mulAddVWW_any (bx ox bz oz n cx cz : Nat) (X : Nat → Int) (y r : Int) (w : World) (hn : n < 4611686018427387904) (hX : Words w bx ox n X) (hXw : WF X n) (hz : Room w bz oz n) (hf : Fwd bx ox bz oz n) (hy : U64 y) (hr : U64 r) :
    Calls Tryz.prog 215 #[.slice (some ⟨bz, oz, none⟩) n cz, .slice (some ⟨bx, ox, none⟩) n cx, .int .u64 y, .int .u64 r] w (OneWord (MulAddPost w bz oz n X y r)) := by
  have H := Lib.hid (mulAddVWW_g_any bx ox bz oz n cx cz X y r w hn hX hXw hz hf hy hr)
  clear hX hXw hz hf hy hr
  go_enter Tryz.func215, Tryz.ntmps215
  go_wp2_with fail
  refine H.out.mono ?_
  rintro e w1 ⟨c, rfl, hp⟩
  have Hp := Lib.hid hp
  clear hp
  go_wp2
  go_ret
  exact ⟨c, rfl, Hp.out⟩
def PB (w : World) (b : Nat) : Prop := ∃ cs t, w.heap[b]? = some (.cells cs t (0, 0))
theorem PB.lt {w : World} {b : Nat} (h : PB w b) : b < w.heap.size := by
  obtain ⟨cs, t, h⟩ := h; exact lt_of_cells h
theorem PB.chg {Z : Zone} {w w' : World} {b : Nat} (h : PB w b) (k : Chg Z w w') : PB w' b := by
  obtain ⟨cs, t, h⟩ := h
  obtain ⟨c', h', _⟩ := k.cells b cs t (0, 0) h
  exact ⟨c', t, h'⟩
theorem PB.new (w : World) (cs : Array Value) (t : TypeId) : PB (w.alloc (.cells cs t)) w.heap.size := ⟨cs, t, Array.getElem?_push_size⟩
def ZOK (w : World) (a : Option Addr) (c : Nat) : Prop := (a = none ∧ c = 0) ∨ ∃ b o, a = some ⟨b, o, none⟩ ∧ PB w b ∧ Room w b o c ∧ c < 9223372036854775808
theorem ZOK.cap {w : World} {a : Option Addr} {c : Nat} (h : ZOK w a c) : c < 9223372036854775808 := by
  rcases h with ⟨_, h⟩ | ⟨_, _, _, _, _, h⟩ <;> omega
def Rd (w : World) (a : Option Addr) (n : Nat) (X : Nat → Int) : Prop := n = 0 ∨ ∃ b o, a = some ⟨b, o, none⟩ ∧ Words w b o n X
def zAddr (a : Option Addr) (c : Nat) : Zone := fun b o => ∃ p, a = some ⟨b, p, none⟩ ∧ p ≤ o ∧ o < p + c
def Home (w : World) (az : Option Addr) (zc : Nat) (a : Option Addr) (c : Nat) : Prop := (a = az ∧ c = zc) ∨ (∃ b o, a = some ⟨b, o, none⟩ ∧ w.heap.size ≤ b)
def MakePost (w : World) (az : Option Addr) (zc m : Nat) (e : Ending) (w' : World) : Prop :=
  ∃ a c, e = .returned (.slice a m c) ∧ m ≤ c ∧ ZOK w' a c ∧ Home w az zc a c ∧ Chg zNone w w'
theorem cell?_alloc_new (w : World) (cs : Array Value) (t : TypeId) (i : Nat) (v : Value) (h : cs[i]? = some v) : (w.alloc (.cells cs t)).cell? ⟨w.heap.size, i, none⟩ = some v := by
  have e : (w.alloc (.cells cs t)).heap[w.heap.size]? = some (.cells cs t) := Array.getElem?_push_size
  simp only [World.cell?, e]
  simpa using h
theorem frozen?_alloc_new (w : World) (cs : Array Value) (t : TypeId) (i : Nat) : (w.alloc (.cells cs t)).frozen? ⟨w.heap.size, i, none⟩ = false := by
  have e : (w.alloc (.cells cs t)).heap[w.heap.size]? = some (.cells cs t) := Array.getElem?_push_size
  simp only [World.frozen?, e]
  simp
theorem room_made (w : World) (n : Nat) : Room (w.alloc (.cells (madeCells #[.int .u64 0] n) 153)) w.heap.size 0 n := fun i hi => by
  have h : (madeCells #[Value.int .u64 0] n)[0 + i]? = some (.int .u64 0) := by
    simp [madeCells, hi, Nat.mod_one]
  exact ⟨⟨0, cell?_alloc_new w _ _ _ _ h⟩, frozen?_alloc_new w _ _ _⟩
theorem info153 : (Tryz.prog.info? 153).map (fun i => (i.zero, i.size, i.bytes)) = some (some (.int .u64 0), 1, 8) := by kernel_rfl
theorem run_make_words (w : World) (l c : Int) (h0 : 0 ≤ l) (hlc : l ≤ c) (hc : c ≤ 35184372088832) :
    (Instr.makeSlice 120 (.int .i64 l) (.int .i64 c)).run Tryz.prog w = .ok (.slice (some ⟨w.heap.size, 0, none⟩) l.toNat c.toNat) (w.alloc (.cells (madeCells #[.int .u64 0] c.toNat) 153)) := by
  obtain ⟨i0, hi, hz0, hz1, hz2⟩ := info_parts info153
  have := run_make (P := Tryz.prog) w 120 153 i0 (.int .u64 0) Tryz.underlying120 hi hz0 .i64 .i64 l c h0 hlc (by rw [hz2]; omega) (by omega)
  rw [this, hz1, Nat.mul_one]
  rfl
set_option maxHeartbeats 1000000 in
theorem make_any (az : Option Addr) (zl zc m : Nat) (w : World) (hz : ZOK w az zc) (hm : m < 17592186044416)  :
    Calls Tryz.prog 139 #[.slice az zl zc, .int .i64 m] w (MakePost w az zc m) := by
  have hzc : zc < 9223372036854775808 := hz.cap
  have Hz := Lib.hid hz
  clear hz
  by_cases h : m ≤ zc
  · go_enter Tryz.func139, Tryz.ntmps139
    go_wp2
    go_ret
    exact ⟨az, zc, by simp, h, Hz.out, Or.inl ⟨rfl, rfl⟩, Chg.refl _ _⟩
  · by_cases h1 : m = 1
    · have hmk := fun w => run_make_words w 1 1 (by omega) (by omega) (by omega)
      subst h1
      go_enter Tryz.func139, Tryz.ntmps139
      go_wp2
      go_ret
      refine ⟨some ⟨w.heap.size, 0, none⟩, 1, rfl, Nat.le_refl _, Or.inr ⟨_, _, rfl, PB.new w _ _, room_made w 1, by omega⟩, Or.inr ⟨_, _, rfl, Nat.le_refl _⟩, ?_⟩
      exact (Chg.refl _ _).alloc _
    · have hmk := fun w => run_make_words w (m : Int) ((m : Int) + 4) (by omega) (by omega) (by omega)
      go_enter Tryz.func139, Tryz.ntmps139
      go_wp2
      go_ret
      refine ⟨some ⟨w.heap.size, 0, none⟩, m + 4, rfl, by omega, Or.inr ⟨_, _, rfl, PB.new w _ _, room_made w (m + 4), by omega⟩, Or.inr ⟨_, _, rfl, Nat.le_refl _⟩, ?_⟩
      exact (Chg.refl _ _).alloc _
def Norm (X : Nat → Int) (n : Nat) : Prop := n = 0 ∨ X (n - 1) ≠ 0
def NormPost (w : World) (a : Option Addr) (n c : Nat) (X : Nat → Int) (e : Ending) (w' : World) : Prop :=
  ∃ i, e = .returned (.slice a i c) ∧ i ≤ n ∧ (∀ j, i ≤ j → j < n → X j = 0) ∧ Norm X i ∧ w = w'
set_option maxHeartbeats 1000000 in
theorem norm_any (a : Option Addr) (n c : Nat) (X : Nat → Int) (w : World) (hr : Rd w a n X) (hnc : n ≤ c) (hc : c < 9223372036854775808) :
    Calls Tryz.prog 141 #[.slice a n c] w (NormPost w a n c X) := by
  have Hr := Lib.hid hr
  clear hr
  go_enter Tryz.func141, Tryz.ntmps141
  go_wp2_with fail
  go_loop [3] (fun si => ∃ i : Nat, si = .int .i64 i ∧ i ≤ n ∧ Hid (∀ j, i ≤ j → j < n → X j = 0)) (fun si => (intOf si).toNat)
  case atStart => exact ⟨n, rfl, Nat.le_refl _, fun j h1 h2 => by omega⟩
  case round =>
    obtain ⟨i, rfl, hi, H⟩ := hrel
    by_cases h0 : 0 < i
    · obtain ⟨b, o, rfl, hw⟩ : ∃ b o, a = some ⟨b, o, none⟩ ∧ Words w b o n X := by
        rcases Hr.out with h | h
        · omega
        · exact h
      obtain ⟨x, hx⟩ : ∃ x, X (i - 1) = x := ⟨_, rfl⟩
      have hcell := hw (i - 1) (by omega)
      rw [hx] at hcell
      have Hx := Lib.hid hx
      clear hx hw
      by_cases hz : x = 0
      · have Hz := Lib.hid hz
        have hb : (x == 0) = true := by simp [hz]
        clear hz
        go_wp2
        go_round
        case rel => exact ⟨i - 1, by go_num, by omega, fun j h1 h2 => by
          by_cases hj : j = i - 1
          · rw [hj, Hx.out, Hz.out]
          · exact H.out j (by omega) h2⟩
        case measure => simp [intOf]; omega
      · have hb : (x == 0) = false := by simp [hz]
        have Hz := Lib.hid hz
        clear hz
        go_wp2
        go_ret
        exact ⟨i, by simp, hi, H.out, Or.inr (by rw [Hx.out]; exact Hz.out), rfl⟩
    · have hb : decide (0 < (i : Int)) = false := by simp; omega
      go_wp2
      go_ret
      exact ⟨i, by simp, hi, H.out, Or.inl (by omega), rfl⟩
def NatRes (w : World) (az : Option Addr) (zc : Nat) (v : Int) (e : Ending) (w' : World) : Prop :=
  ∃ a n c X, e = .returned (.slice a n c) ∧ n ≤ c ∧ ZOK w' a c ∧ Rd w' a n X ∧ WF X n ∧ Norm X n ∧ val X n = v ∧ Home w az zc a c ∧ Chg (zAddr az zc) w w'
theorem ZOK.chg {Z : Zone} {w w' : World} {a : Option Addr} {c : Nat} (h : ZOK w a c) (k : Chg Z w w') (hz : ∀ b o, zAddr a c b o → ¬ Z b o) : ZOK w' a c := by
  rcases h with h | ⟨b, o, rfl, h1, h2, h3⟩
  · exact Or.inl h
  · exact Or.inr ⟨b, o, rfl, h1.chg k, h2.chg k (fun i hi => hz b (o + i) ⟨o, rfl, by omega, by omega⟩), h3⟩
theorem ZOK.room {w : World} {a : Option Addr} {c : Nat} (h : ZOK w a c) (hc : 0 < c) : ∃ b o, a = some ⟨b, o, none⟩ ∧ PB w b ∧ Room w b o c := by
  rcases h with ⟨_, h⟩ | ⟨b, o, h1, h2, h3, _⟩
  · omega
  · exact ⟨b, o, h1, h2, h3⟩
theorem Home.zone {w : World} {az a : Option Addr} {zc c : Nat} (h : Home w az zc a c) : ∀ b o, b < w.heap.size → zAddr a c b o → zAddr az zc b o := by
  rintro b o hb ⟨p, rfl, h1, h2⟩
  rcases h with ⟨h3, h4⟩ | ⟨b', o', h3, h4⟩
  · exact ⟨p, h3 ▸ rfl, h1, by omega⟩
  · injection h3 with h3; injection h3 with h3; omega
theorem cell?_setInt {w : World} {b o : Nat} {b' o' : Nat} {y : Int} (v : Int) (h : w.cell? ⟨b, o, none⟩ = some (.int .u64 y)) :
    ∃ z : Int, (w.setCell ⟨b', o', none⟩ (.int .u64 v)).cell? ⟨b, o, none⟩ = some (.int .u64 z) := by
  by_cases e : (⟨b', o', none⟩ : Addr) = ⟨b, o, none⟩
  · rw [e]; exact ⟨v, World.cell?_setCell_same' _ _ _ (by rw [h]; rfl)⟩
  · exact ⟨y, by rw [World.cell?_setCell_other w _ _ _ e]; exact h⟩
theorem Room.setInt {w : World} {b o n : Nat} (h : Room w b o n) (b' o' : Nat) (v : Int) : Room (w.setCell ⟨b', o', none⟩ (.int .u64 v)) b o n := fun i hi => by
  obtain ⟨⟨y, hy⟩, hf⟩ := h i hi
  refine ⟨cell?_setInt v hy, ?_⟩
  rw [(chg_setCell w b' o' _).frozen hy]; exact hf
theorem ZOK.setInt {w : World} {a : Option Addr} {c : Nat} (h : ZOK w a c) (b' o' : Nat) (v : Int) : ZOK (w.setCell ⟨b', o', none⟩ (.int .u64 v)) a c := by
  rcases h with h | ⟨b, o, rfl, h1, h2, h3⟩
  · exact Or.inl h
  · exact Or.inr ⟨b, o, rfl, h1.chg (chg_setCell w b' o' _), h2.setInt b' o' v, h3⟩
set_option maxHeartbeats 1000000 in
theorem setWord_any (az : Option Addr) (zl zc : Nat) (x : Int) (w : World) (hz : ZOK w az zc) (hx : U64 x) :
    Calls Tryz.prog 130 #[.slice az zl zc, .int .u64 x] w (NatRes w az zc x) := by
  have Hx := Lib.hid hx
  have Hz := Lib.hid hz
  have hzc := hz.cap
  clear hx hz
  by_cases h0 : x = 0
  · have hb : (x == 0) = true := by simp [h0]
    have H0 := Lib.hid h0
    clear h0
    go_enter Tryz.func130, Tryz.ntmps130
    go_wp2
    go_ret
    exact ⟨az, 0, zc, fun _ => 0, rfl, Nat.zero_le _, Hz.out, Or.inl rfl, fun i hi => by omega, Or.inl rfl, by rw [H0.out]; rfl, Or.inl ⟨rfl, rfl⟩, Chg.refl _ _⟩
  · have hb : (x == 0) = false := by simp [h0]
    have H0 := Lib.hid h0
    clear h0
    go_enter Tryz.func130, Tryz.ntmps130
    go_wp2_with fail
    refine (make_any az zl zc 1 _ Hz.out (by omega)).mono ?_
    rintro e w1 ⟨a, c, rfl, h1, h2, h3, h4⟩
    obtain ⟨b, o, rfl, hb1, hroom⟩ := h2.room (by omega)
    obtain ⟨⟨x0, hc0⟩, hf0⟩ := hroom 0 (by omega)
    have H2 := Lib.hid h2
    have H3 := Lib.hid h3
    have H4 := Lib.hid h4
    have H1 := Lib.hid h1
    have hcap := h2.cap
    clear h1 h2 h3 h4 hroom
    simp only [Nat.add_zero] at hc0 hf0
    go_wp2
    go_ret
    have hcell : (w1.cell? ⟨b, o, none⟩).isSome = true := by rw [hc0]; rfl
    refine ⟨some ⟨b, o, none⟩, 1, c, fun _ => x, rfl, H1.out, ?_, Or.inr ⟨b, o, rfl, fun i hi => ?_⟩, fun i hi => Hx.out, Or.inr H0.out, by simp [val], H3.out, ?_⟩
    · exact H2.out.setInt b o x
    · obtain rfl : i = 0 := by omega
      exact World.cell?_setCell_same' _ _ _ hcell
    · refine (H4.out.mono (fun _ _ _ h => h.elim)).setCell b o _ (fun hb => ?_)
      exact H3.out.zone b o hb ⟨o, rfl, Nat.le_refl _, by have := H1.out; omega⟩
def Apart (az : Option Addr) (zc : Nat) (ax : Option Addr) (xn : Nat) : Prop := ax = az ∨ ∀ b o i, ax = some ⟨b, o, none⟩ → i < xn → ¬ zAddr az zc b (o + i)
set_option maxHeartbeats 2000000 in
theorem mulAddWW_any (az ax : Option Addr) (zl zc xn xc : Nat) (X : Nat → Int) (y r : Int) (w : World) (hz : ZOK w az zc) (hx : Rd w ax xn X) (hxw : WF X xn) (hxc : xn ≤ xc) (hxn : xn < 1099511627776) (hap : Apart az zc ax xn) (hy : U64 y) (hr : U64 r) :
    Calls Tryz.prog 164 #[.slice az zl zc, .slice ax xn xc, .int .u64 y, .int .u64 r] w (NatRes w az zc (val X xn * y + r)) := by
  have Hz := Lib.hid hz
  have Hx := Lib.hid hx
  have Hxw := Lib.hid hxw
  have Hap := Lib.hid hap
  have Hy := Lib.hid hy
  have Hr := Lib.hid hr
  have hzc := hz.cap
  clear hz hx hxw hap hy hr
  by_cases hm : xn = 0
  · have H0 := Lib.hid (show val X xn * y + r = r by rw [hm]; simp [val])
    subst hm
    go_enter Tryz.func164, Tryz.ntmps164
    go_wp2_with fail
    refine (setWord_any az zl zc r _ Hz.out Hr.out).mono ?_
    rintro e w1 ⟨a, n, c, Z, rfl, h1, h2, h3, h4, h5, h6, h7, h8⟩
    have H := Lib.hid (And.intro h1 (And.intro h2 (And.intro h3 (And.intro h4 (And.intro h5 (And.intro h6 (And.intro h7 h8)))))))
    clear h1 h2 h3 h4 h5 h6 h7 h8
    go_wp2
    go_ret
    exact ⟨a, n, c, Z, rfl, H.out.1, H.out.2.1, H.out.2.2.1, H.out.2.2.2.1, H.out.2.2.2.2.1, by rw [H0.out]; exact H.out.2.2.2.2.2.1, H.out.2.2.2.2.2.2.1, H.out.2.2.2.2.2.2.2⟩
  · have hmb : ((xn : Int) == 0) = false := by simp [hm]
    by_cases hy0 : y = 0
    · have hyb : (y == 0) = true := by simp [hy0]
      have H0 := Lib.hid (show val X xn * y + r = r by rw [hy0]; simp)
      clear hy0
      go_enter Tryz.func164, Tryz.ntmps164
      go_wp2_with fail
      refine (setWord_any az zl zc r _ Hz.out Hr.out).mono ?_
      rintro e w1 ⟨a, n, c, Z, rfl, h1, h2, h3, h4, h5, h6, h7, h8⟩
      have H := Lib.hid (And.intro h1 (And.intro h2 (And.intro h3 (And.intro h4 (And.intro h5 (And.intro h6 (And.intro h7 h8)))))))
      clear h1 h2 h3 h4 h5 h6 h7 h8
      go_wp2
      go_ret
      exact ⟨a, n, c, Z, rfl, H.out.1, H.out.2.1, H.out.2.2.1, H.out.2.2.2.1, H.out.2.2.2.2.1, by rw [H0.out]; exact H.out.2.2.2.2.2.1, H.out.2.2.2.2.2.2.1, H.out.2.2.2.2.2.2.2⟩
    · have hyb : (y == 0) = false := by simp [hy0]
      clear hy0
      obtain ⟨bx, ox, rfl, hX⟩ : ∃ bx ox, ax = some ⟨bx, ox, none⟩ ∧ Words w bx ox xn X := by
        rcases Hx.out with h | h
        · exact absurd h hm
        · exact h
      have HX := Lib.hid hX
      clear hX
      go_enter Tryz.func164, Tryz.ntmps164
      go_wp2_with fail
      rw [show ((xn : Int) + 1) = ((xn + 1 : Nat) : Int) from by omega]
      refine (make_any az zl zc (xn + 1) _ Hz.out (by omega)).mono ?_
      rintro e w1 ⟨a, c, rfl, h1, h2, h3, h4⟩
      obtain ⟨b, o, rfl, hb1, hroom⟩ := h2.room (by omega)
      have hcap := h2.cap
      have H := Lib.hid (And.intro h1 (And.intro h2 (And.intro h3 (And.intro h4 (And.intro hb1 hroom)))))
      have hxnc : xn ≤ c := by omega
      have hbx : bx < w.heap.size := lt_of_cell (HX.out 0 (by omega))
      have hX1 : Words w1 bx ox xn X := HX.out.chg h4 (fun i hi h => h.elim)
      have hfwd : Fwd bx ox b o xn := by
        rcases h3 with ⟨e1, e2⟩ | ⟨b', o', e1, e2⟩
        · rcases Hap.out with e3 | e3
          · rw [← e1] at e3; injection e3 with e3; injection e3 with e3 e4; exact Or.inr (Or.inl (by omega))
          · by_cases hbb : bx = b
            · subst hbb
              refine Or.inr ?_
              by_cases hle : o ≤ ox
              · exact Or.inl hle
              · refine Or.inr ?_
                by_cases hgt : ox + xn ≤ o
                · exact hgt
                · exact absurd ⟨o, e1.symm, by omega, by omega⟩ (e3 bx ox (o - ox) rfl (by omega))
            · exact Or.inl hbb
        · injection e1 with e1; injection e1 with e1; exact Or.inl (by omega)
      have HX1 := Lib.hid hX1
      have HF := Lib.hid hfwd
      clear h1 h2 h3 h4 hroom hX1 hfwd hbx
      go_wp2_with fail
      refine (mulAddVWW_any bx ox b o xn xc c X y r _ (by omega) HX1.out Hxw.out (H.out.2.2.2.2.2.le (by have := H.out.1; omega)) HF.out Hy.out Hr.out).mono ?_
      rintro e w2 ⟨cy, rfl, Z, q1, q2, q3, q4, q5⟩
      have Hq1 := Lib.hid q1
      have Hq2 := Lib.hid q2
      have Hq3 := Lib.hid q3
      have Hq4 := Lib.hid q4
      have Hq5 := Lib.hid q5
      clear q1 q2 q3 q4 q5
      have hnz : ∀ bb oo, zRow b o xn bb oo → zAddr (some ⟨b, o, none⟩) c bb oo := fun bb oo ⟨e1, e2, e3⟩ => ⟨o, by rw [e1], e2, by omega⟩
      have Hroom2 : Hid (Room w2 b (o + xn) (c - xn)) := (H.out.2.2.2.2.2.drop xn (c - xn) (by omega)).chg Hq1.out (fun i hi ⟨_, _, h3⟩ => by omega)
      have HZ2 : Hid (Room w2 b o xn) := Hq2.out.room (fun i hi => by
        obtain ⟨⟨z0, hz0⟩, hf0⟩ := H.out.2.2.2.2.2 i (by omega)
        rw [Hq1.out.frozen hz0]; exact hf0)
      obtain ⟨⟨z0, hz0⟩, hf0⟩ := Hroom2.out 0 (by have := H.out.1; omega)
      simp only [Nat.add_zero] at hz0 hf0
      clear hnz
      have Hnew : Hid (ZOK (w2.setCell ⟨b, o + xn, none⟩ (.int .u64 cy)) (some ⟨b, o, none⟩) c ∧ Words (w2.setCell ⟨b, o + xn, none⟩ (.int .u64 cy)) b o (xn + 1) (upd Z xn cy) ∧ Chg (zAddr az zc) w (w2.setCell ⟨b, o + xn, none⟩ (.int .u64 cy))) := by
        refine ⟨ZOK.setInt (Or.inr ⟨b, o, rfl, hb1.chg Hq1.out, ?_, hcap⟩) b (o + xn) cy, Hq2.out.snoc (by rw [hz0]; rfl), ?_⟩
        · have := HZ2.out.join Hroom2.out
          rwa [show xn + (c - xn) = c by omega] at this
        · have k1 : Chg (zAddr az zc) w w1 := H.out.2.2.2.1.mono (fun _ _ _ h => h.elim)
          have k2 : Chg (zAddr az zc) w w2 := k1.trans Hq1.out (fun bb oo hbb ⟨e1, e2, e3⟩ => H.out.2.2.1.zone bb oo hbb ⟨o, by rw [e1], e2, by omega⟩)
          exact k2.setCell b (o + xn) _ (fun hbb => H.out.2.2.1.zone b _ hbb ⟨o, rfl, by omega, by have := H.out.1; omega⟩)
      go_wp2_with fail
      refine (norm_any (some ⟨b, o, none⟩) (xn + 1) c (upd Z xn cy) _ (Or.inr ⟨b, o, rfl, Hnew.out.2.1⟩) (by have := H.out.1; omega) (by omega)).mono ?_
      rintro e w3 ⟨i, rfl, n1, n2, n3, rfl⟩
      have Hn1 := Lib.hid n1
      have Hn2 := Lib.hid n2
      have Hn3 := Lib.hid n3
      clear n1 n2 n3
      go_wp2
      go_ret
      have hw1 : WF (upd Z xn cy) (xn + 1) := WF_upd Hq3.out Hq4.out
      refine ⟨some ⟨b, o, none⟩, i, c, upd Z xn cy, rfl, by have := Hn1.out; have := H.out.1; omega, Hnew.out.1, Or.inr ⟨b, o, rfl, Hnew.out.2.1.le Hn1.out⟩, hw1.le Hn1.out, Hn3.out, ?_, H.out.2.2.1, Hnew.out.2.2⟩
      rw [← val_top Hn1.out Hn2.out]
      simp only [val]
      rw [val_upd, upd_same]
      exact Hq5.out
theorem pow_ge_two (b : Int) (hb : 2 ≤ b) (n : Nat) : (2 : Int) ^ n ≤ b ^ n := by
  induction n with
  | zero => simp
  | succ n ih =>
    rw [Int.pow_succ, Int.pow_succ]
    exact Int.mul_le_mul ih hb (by omega) (Int.le_trans (Int.pow_nonneg (by omega)) ih)
theorem n_le_63 (b : Int) (hb : 2 ≤ b) (n : Nat) (h : b ^ n < 18446744073709551616) : n ≤ 63 := by
  by_cases hn : n ≤ 63
  · exact hn
  · exfalso
    have h1 := pow_ge_two b hb n
    have h2 : (2 : Int) ^ 64 ≤ 2 ^ n := by
      obtain ⟨k, rfl⟩ : ∃ k, n = 64 + k := ⟨n - 64, by omega⟩
      rw [Int.pow_add]
      have : (1 : Int) ≤ 2 ^ k := Int.pow_pos (by omega)
      have := Int.mul_le_mul_of_nonneg_left this (show (0 : Int) ≤ 2 ^ 64 by decide)
      simpa using this
    have : (2 : Int) ^ 64 = 18446744073709551616 := by decide
    omega
theorem pow_next (b p : Int) (n : Nat) (hb : 2 ≤ b) (hp : p = b ^ n) (hp0 : 0 ≤ p) (h : p ≤ 18446744073709551615 / b) : IntKind.u64.wrap (p * b) = b ^ (n + 1) ∧ b ^ (n + 1) < 18446744073709551616 ∧ 0 ≤ b ^ (n + 1) := by
  have h1 : p * b ≤ 18446744073709551615 := Int.le_trans (Int.mul_le_mul_of_nonneg_right h (by omega)) (Int.ediv_mul_le _ (by omega))
  have h0 : 0 ≤ p * b := Int.mul_nonneg hp0 (by omega)
  rw [wrap_u64, Int.pow_succ, ← hp]
  omega
def RdAt (w : World) (br : Nat) (s : ByteArray) (i : Nat) : Prop :=
  w.cell? ⟨br, 0, none⟩ = some (.string s) ∧ w.cell? ⟨br, 1, none⟩ = some (.int .i64 i) ∧ (∃ p : Int, w.cell? ⟨br, 2, none⟩ = some (.int .i64 p)) ∧
  w.frozen? ⟨br, 1, none⟩ = false ∧ w.frozen? ⟨br, 2, none⟩ = false
theorem RdAt.chg {Z : Zone} {w w' : World} {br : Nat} {s : ByteArray} {i : Nat} (h : RdAt w br s i) (k : Chg Z w w') (hz : ∀ o, o < 3 → ¬ Z br o) : RdAt w' br s i := by
  obtain ⟨h0, h1, ⟨p, h2⟩, h3, h4⟩ := h
  exact ⟨k.cell h0 (hz 0 (by omega)), k.cell h1 (hz 1 (by omega)), ⟨p, k.cell h2 (hz 2 (by omega))⟩, by rw [k.frozen h0]; exact h3, by rw [k.frozen h0]; exact h4⟩
theorem cs_other {w : World} {b o o' : Nat} {v : Value} (h : o ≠ o') : (w.setCell ⟨b, o, none⟩ v).cell? ⟨b, o', none⟩ = w.cell? ⟨b, o', none⟩ :=
  World.cell?_setCell_other w _ _ _ (by intro e; injection e with _ e2 _; exact h e2)
theorem cs_same {w : World} {b o : Nat} {u v : Value} (h : w.cell? ⟨b, o, none⟩ = some u) : (w.setCell ⟨b, o, none⟩ v).cell? ⟨b, o, none⟩ = some v :=
  World.cell?_setCell_same' _ _ _ (by rw [h]; rfl)
theorem fz_set {w : World} {b o o' : Nat} {v : Value} {b' : Nat} : (w.setCell ⟨b, o, none⟩ v).frozen? ⟨b', o', none⟩ = w.frozen? ⟨b', o', none⟩ := World.frozen?_setCell ..
def byteAt (s : ByteArray) (i : Nat) : Int := (s.data.toList.getD i 0).toNat
theorem byteAt_eq (s : ByteArray) (i : Nat) (hi : i < s.size) : ((s[i]'hi).toNat : Int) = byteAt s i := by
  unfold byteAt
  rw [List.getD_eq_getElem?_getD, List.getElem?_eq_getElem (by simpa using hi)]
  rfl
end Go.Proofs.YtmgfajamanakcaaGreatDoor
