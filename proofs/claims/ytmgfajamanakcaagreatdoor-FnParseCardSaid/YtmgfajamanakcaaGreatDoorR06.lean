/- Part of the proof of FnParse: what the functions that it reaches do, as contracts. Conditions: those that each theorem names. -/
import Derived.Test.YtmgfajamanakcaaGreatDoorR01
import Derived.Test.YtmgfajamanakcaaGreatDoorR04
import Derived.Test.YtmgfajamanakcaaGreatDoorR03
import Derived.Deep.QuietTactic
namespace Go.Proofs.YtmgfajamanakcaaGreatDoor
set_option linter.unusedVariables false
set_option linter.unusedSimpArgs false
def SB : Int := 65536
def D16 (x : Int) : Prop := 0 ≤ x ∧ x < 65536
def DF (X : Nat → Int) (n : Nat) : Prop := ∀ i, i < n → D16 (X i)
def vs (X : Nat → Int) : Nat → Int
  | 0 => 0
  | n + 1 => vs X n + X n * SB ^ n
theorem SB_pos : (0 : Int) < SB := by decide
theorem SBn_pos (n : Nat) : (0 : Int) < SB ^ n := Int.pow_pos SB_pos
theorem SB_succ (n : Nat) : SB ^ (n + 1) = SB ^ n * SB := Int.pow_succ ..
theorem DF.le {X : Nat → Int} {n m : Nat} (h : DF X n) (hm : m ≤ n) : DF X m := fun i hi => h i (by omega)
theorem vs_congr {X Y : Nat → Int} {n : Nat} (h : ∀ i, i < n → X i = Y i) : vs X n = vs Y n := by
  induction n with
  | zero => rfl
  | succ n ih => simp only [vs]; rw [ih (fun i hi => h i (by omega)), h n (by omega)]
theorem DF.congr {X Y : Nat → Int} {n : Nat} (h : DF X n) (e : ∀ i, i < n → X i = Y i) : DF Y n := fun i hi => by rw [← e i hi]; exact h i hi
theorem vs_nonneg {X : Nat → Int} {n : Nat} (h : DF X n) : 0 ≤ vs X n := by
  induction n with
  | zero => exact Int.le_refl _
  | succ n ih =>
    simp only [vs]
    have := Int.mul_nonneg (h n (by omega)).1 (Int.le_of_lt (SBn_pos n))
    have := ih (h.le (by omega))
    omega
theorem vs_lt {X : Nat → Int} {n : Nat} (h : DF X n) : vs X n < SB ^ n := by
  induction n with
  | zero => simp [vs]
  | succ n ih =>
    simp only [vs]
    have h1 := ih (h.le (by omega))
    have h2 : X n ≤ SB - 1 := by have := (h n (by omega)).2; unfold SB; omega
    have h3 : X n * SB ^ n ≤ (SB - 1) * SB ^ n := Int.mul_le_mul_of_nonneg_right h2 (Int.le_of_lt (SBn_pos n))
    rw [SB_succ]
    have h4 : (SB - 1) * SB ^ n = SB ^ n * SB - SB ^ n := by grind
    omega
theorem vs_add (X : Nat → Int) (k m : Nat) : vs X (k + m) = vs X k + SB ^ k * vs (fun i => X (k + i)) m := by
  induction m with
  | zero => simp [vs]
  | succ m ih =>
    rw [← Nat.add_assoc]
    simp only [vs]
    rw [ih, Int.pow_add]
    grind
theorem vs_zeros {X : Nat → Int} {n : Nat} (h : ∀ i, i < n → X i = 0) : vs X n = 0 := by
  induction n with
  | zero => rfl
  | succ n ih => simp only [vs]; rw [ih (fun i hi => h i (by omega)), h n (by omega)]; simp
theorem vs_top {X : Nat → Int} {m n : Nat} (hm : m ≤ n) (h : ∀ i, m ≤ i → i < n → X i = 0) : vs X n = vs X m := by
  obtain ⟨k, rfl⟩ : ∃ k, n = m + k := ⟨n - m, by omega⟩
  rw [vs_add, vs_zeros (fun i hi => h (m + i) (by omega) (by omega))]
  simp
def DN (X : Nat → Int) (n : Nat) : Prop := n = 0 ∨ X (n - 1) ≠ 0
theorem vs_ge {X : Nat → Int} {n : Nat} (h : DF X n) (hn : DN X n) (h0 : 0 < n) : SB ^ (n - 1) ≤ vs X n := by
  obtain ⟨m, rfl⟩ : ∃ m, n = m + 1 := ⟨n - 1, by omega⟩
  simp only [vs, Nat.add_sub_cancel] at *
  rcases hn with hn | hn
  · omega
  · have h1 := vs_nonneg (h.le (show m ≤ m + 1 by omega))
    have h2 := (h m (by omega)).1
    have h3 := Int.mul_le_mul_of_nonneg_right (show 1 ≤ X m by simp at hn; omega) (Int.le_of_lt (SBn_pos m))
    omega
theorem SB_mono {m n : Nat} (h : m ≤ n) : SB ^ m ≤ SB ^ n := by
  obtain ⟨k, rfl⟩ : ∃ k, n = m + k := ⟨n - m, by omega⟩
  rw [Int.pow_add]
  have h1 := SBn_pos k
  have h2 := Int.mul_le_mul_of_nonneg_left (show 1 ≤ SB ^ k by omega) (Int.le_of_lt (SBn_pos m))
  omega
end Go.Proofs.YtmgfajamanakcaaGreatDoor
namespace Go.Proofs.YtmgfajamanakcaaGreatDoor
set_option linter.unusedVariables false
set_option linter.unusedSimpArgs false
open Go.RowKit
set_option maxRecDepth 100000
def IntC (w : World) (zb zo : Nat) (neg : Bool) (a : Option Addr) (n c : Nat) : Prop :=
  w.cell? ⟨zb, zo, none⟩ = some (.bool neg) ∧ w.cell? ⟨zb, zo + 1, none⟩ = some (.slice a n c) ∧ w.frozen? ⟨zb, zo, none⟩ = false ∧ w.frozen? ⟨zb, zo + 1, none⟩ = false
theorem IntC.chg {Z : Zone} {w w' : World} {zb zo : Nat} {neg : Bool} {a : Option Addr} {n c : Nat} (h : IntC w zb zo neg a n c) (k : Chg Z w w') (hz : ∀ o, o < 2 → ¬ Z zb (zo + o)) : IntC w' zb zo neg a n c := by
  obtain ⟨h0, h1, h2, h3⟩ := h
  exact ⟨k.cell h0 (hz 0 (by omega)), k.cell h1 (hz 1 (by omega)), by rw [k.frozen h0]; exact h2, by rw [k.frozen h0]; exact h3⟩
theorem IntC.abs {w : World} {zb zo : Nat} {neg : Bool} {a a' : Option Addr} {n c n' c' : Nat} (h : IntC w zb zo neg a n c) : IntC (w.setCell ⟨zb, zo + 1, none⟩ (.slice a' n' c')) zb zo neg a' n' c' := by
  obtain ⟨h0, h1, h2, h3⟩ := h
  exact ⟨by rw [cs_other (by omega)]; exact h0, cs_same h1, by rw [fz_set]; exact h2, by rw [fz_set]; exact h3⟩
theorem IntC.sign {w : World} {zb zo : Nat} {neg neg' : Bool} {a : Option Addr} {n c : Nat} (h : IntC w zb zo neg a n c) : IntC (w.setCell ⟨zb, zo, none⟩ (.bool neg')) zb zo neg' a n c := by
  obtain ⟨h0, h1, h2, h3⟩ := h
  exact ⟨cs_same h0, by rw [cs_other (by omega)]; exact h1, by rw [fz_set]; exact h2, by rw [fz_set]; exact h3⟩
theorem IntC.lt {w : World} {zb zo : Nat} {neg : Bool} {a : Option Addr} {n c : Nat} (h : IntC w zb zo neg a n c) : zb < w.heap.size := by
  have h0 := h.1
  unfold World.cell? at h0
  rcases Nat.lt_or_ge zb w.heap.size with hh | hh
  · exact hh
  · rw [Array.getElem?_eq_none hh] at h0
    cases h0
theorem chg_cell (w : World) (b o : Nat) (v : Value) : Chg (zRow b o 1) w (w.setCell ⟨b, o, none⟩ v) := (Chg.refl _ _).setCell b o v (fun _ => ⟨rfl, by omega, by omega⟩)
structure FV where
  p : Int
  md : Int
  ac : Int
  fm : Int
  ng : Bool
  a : Option Addr
  n : Nat
  c : Nat
  e : Int
structure FltC (w : World) (b : Nat) (v : FV) : Prop where
  p : w.cell? ⟨b, 0, none⟩ = some (.int .u32 v.p)
  md : w.cell? ⟨b, 1, none⟩ = some (.int .u8 v.md)
  ac : w.cell? ⟨b, 2, none⟩ = some (.int .i8 v.ac)
  fm : w.cell? ⟨b, 3, none⟩ = some (.int .u8 v.fm)
  ng : w.cell? ⟨b, 4, none⟩ = some (.bool v.ng)
  mt : w.cell? ⟨b, 5, none⟩ = some (.slice v.a v.n v.c)
  ex : w.cell? ⟨b, 6, none⟩ = some (.int .i32 v.e)
  pb : PB w b
theorem PB.fz {w : World} {b : Nat} (h : PB w b) (o : Nat) : w.frozen? ⟨b, o, none⟩ = false := by
  obtain ⟨cs, t, h⟩ := h
  simp only [World.frozen?, h]
  simp
theorem FltC.chg {Z : Zone} {w w' : World} {b : Nat} {v : FV} (h : FltC w b v) (k : Chg Z w w') (hz : ∀ o, o < 7 → ¬ Z b o) : FltC w' b v :=
  ⟨k.cell h.p (hz 0 (by omega)), k.cell h.md (hz 1 (by omega)), k.cell h.ac (hz 2 (by omega)), k.cell h.fm (hz 3 (by omega)), k.cell h.ng (hz 4 (by omega)), k.cell h.mt (hz 5 (by omega)), k.cell h.ex (hz 6 (by omega)), h.pb.chg k⟩
theorem FltC.lt {w : World} {b : Nat} {v : FV} (h : FltC w b v) : b < w.heap.size := h.pb.lt
theorem FltC.setP {w : World} {b : Nat} {v : FV} (h : FltC w b v) (x : Int) : FltC (w.setCell ⟨b, 0, none⟩ (.int .u32 x)) b { v with p := x } :=
  ⟨cs_same h.p, by rw [cs_other (by decide)]; exact h.md, by rw [cs_other (by decide)]; exact h.ac, by rw [cs_other (by decide)]; exact h.fm, by rw [cs_other (by decide)]; exact h.ng, by rw [cs_other (by decide)]; exact h.mt, by rw [cs_other (by decide)]; exact h.ex, h.pb.chg (chg_cell _ _ _ _)⟩
theorem FltC.setMd {w : World} {b : Nat} {v : FV} (h : FltC w b v) (x : Int) : FltC (w.setCell ⟨b, 1, none⟩ (.int .u8 x)) b { v with md := x } :=
  ⟨by rw [cs_other (by decide)]; exact h.p, cs_same h.md, by rw [cs_other (by decide)]; exact h.ac, by rw [cs_other (by decide)]; exact h.fm, by rw [cs_other (by decide)]; exact h.ng, by rw [cs_other (by decide)]; exact h.mt, by rw [cs_other (by decide)]; exact h.ex, h.pb.chg (chg_cell _ _ _ _)⟩
theorem FltC.setAc {w : World} {b : Nat} {v : FV} (h : FltC w b v) (x : Int) : FltC (w.setCell ⟨b, 2, none⟩ (.int .i8 x)) b { v with ac := x } :=
  ⟨by rw [cs_other (by decide)]; exact h.p, by rw [cs_other (by decide)]; exact h.md, cs_same h.ac, by rw [cs_other (by decide)]; exact h.fm, by rw [cs_other (by decide)]; exact h.ng, by rw [cs_other (by decide)]; exact h.mt, by rw [cs_other (by decide)]; exact h.ex, h.pb.chg (chg_cell _ _ _ _)⟩
theorem FltC.setFm {w : World} {b : Nat} {v : FV} (h : FltC w b v) (x : Int) : FltC (w.setCell ⟨b, 3, none⟩ (.int .u8 x)) b { v with fm := x } :=
  ⟨by rw [cs_other (by decide)]; exact h.p, by rw [cs_other (by decide)]; exact h.md, by rw [cs_other (by decide)]; exact h.ac, cs_same h.fm, by rw [cs_other (by decide)]; exact h.ng, by rw [cs_other (by decide)]; exact h.mt, by rw [cs_other (by decide)]; exact h.ex, h.pb.chg (chg_cell _ _ _ _)⟩
theorem FltC.setNg {w : World} {b : Nat} {v : FV} (h : FltC w b v) (x : Bool) : FltC (w.setCell ⟨b, 4, none⟩ (.bool x)) b { v with ng := x } :=
  ⟨by rw [cs_other (by decide)]; exact h.p, by rw [cs_other (by decide)]; exact h.md, by rw [cs_other (by decide)]; exact h.ac, by rw [cs_other (by decide)]; exact h.fm, cs_same h.ng, by rw [cs_other (by decide)]; exact h.mt, by rw [cs_other (by decide)]; exact h.ex, h.pb.chg (chg_cell _ _ _ _)⟩
theorem FltC.setMt {w : World} {b : Nat} {v : FV} (h : FltC w b v) (a : Option Addr) (n c : Nat) : FltC (w.setCell ⟨b, 5, none⟩ (.slice a n c)) b { v with a := a, n := n, c := c } :=
  ⟨by rw [cs_other (by decide)]; exact h.p, by rw [cs_other (by decide)]; exact h.md, by rw [cs_other (by decide)]; exact h.ac, by rw [cs_other (by decide)]; exact h.fm, by rw [cs_other (by decide)]; exact h.ng, cs_same h.mt, by rw [cs_other (by decide)]; exact h.ex, h.pb.chg (chg_cell _ _ _ _)⟩
theorem FltC.setEx {w : World} {b : Nat} {v : FV} (h : FltC w b v) (x : Int) : FltC (w.setCell ⟨b, 6, none⟩ (.int .i32 x)) b { v with e := x } :=
  ⟨by rw [cs_other (by decide)]; exact h.p, by rw [cs_other (by decide)]; exact h.md, by rw [cs_other (by decide)]; exact h.ac, by rw [cs_other (by decide)]; exact h.fm, by rw [cs_other (by decide)]; exact h.ng, by rw [cs_other (by decide)]; exact h.mt, cs_same h.ex, h.pb.chg (chg_cell _ _ _ _)⟩
def addLo (x y c : Int) : Int := (x + y + c) % 18446744073709551616
def addHi (x y c : Int) : Int := (x + y + c) / 18446744073709551616
theorem add_spec {x y c : Int} (hx : U64 x) (hy : U64 y) (hc : 0 ≤ c ∧ c ≤ 1) : U64 (addLo x y c) ∧ (0 ≤ addHi x y c ∧ addHi x y c ≤ 1) ∧ addLo x y c + addHi x y c * BB = x + y + c := by
  obtain ⟨hx0, hx1⟩ := hx
  obtain ⟨hy0, hy1⟩ := hy
  unfold addLo addHi U64 BB
  omega
theorem Add_det (x y c : Int) (w : World) (hx : U64 x) (hy : U64 y) (hc : 0 ≤ c ∧ c ≤ 1) :
    Calls Tryz.prog 223 #[.int .u64 x, .int .u64 y, .int .u64 c] w (fun e w' => e = .returned (.tuple #[.int .u64 (addLo x y c), .int .u64 (addHi x y c)]) ∧ w' = w) := by
  have hs := add_spec hx hy hc
  refine (Add_any x y c w hx hy hc).mono ?_
  rintro e w' ⟨s, c', rfl, ⟨h1, h2, h3⟩, rfl⟩
  obtain ⟨k1, k2, k3⟩ := hs
  have e1 : s = addLo x y c := by unfold U64 BB at *; omega
  have e2 : c' = addHi x y c := by unfold U64 BB at *; omega
  rw [e1, e2]; exact ⟨rfl, rfl⟩
def subLo (x y c : Int) : Int := (x - y - c) % 18446744073709551616
def subHi (x y c : Int) : Int := if x < y + c then 1 else 0
theorem sub_spec {x y c : Int} (hx : U64 x) (hy : U64 y) (hc : 0 ≤ c ∧ c ≤ 1) : U64 (subLo x y c) ∧ (0 ≤ subHi x y c ∧ subHi x y c ≤ 1) ∧ subLo x y c - subHi x y c * BB = x - y - c := by
  obtain ⟨hx0, hx1⟩ := hx
  obtain ⟨hy0, hy1⟩ := hy
  unfold subLo subHi U64 BB
  split <;> omega
theorem Sub_det (x y c : Int) (w : World) (hx : U64 x) (hy : U64 y) (hc : 0 ≤ c ∧ c ≤ 1) :
    Calls Tryz.prog 225 #[.int .u64 x, .int .u64 y, .int .u64 c] w (fun e w' => e = .returned (.tuple #[.int .u64 (subLo x y c), .int .u64 (subHi x y c)]) ∧ w' = w) := by
  have hs := sub_spec hx hy hc
  refine (Sub_any x y c w hx hy hc).mono ?_
  rintro e w' ⟨s, c', rfl, ⟨h1, h2, h3⟩, rfl⟩
  obtain ⟨k1, k2, k3⟩ := hs
  have e1 : s = subLo x y c := by unfold U64 BB at *; omega
  have e2 : c' = subHi x y c := by unfold U64 BB at *; omega
  rw [e1, e2]; exact ⟨rfl, rfl⟩
def AddPost (w : World) (bz oz n : Nat) (X Y : Nat → Int) (c : Int) (w' : World) : Prop :=
  ∃ Z, Chg (zRow bz oz n) w w' ∧ Words w' bz oz n Z ∧ WF Z n ∧ (0 ≤ c ∧ c ≤ 1) ∧ val Z n + c * BB ^ n = val X n + val Y n
theorem add_step {X Y Z : Nat → Int} {c c' xk yk s : Int} {k : Nat} (h : val Z k + c * BB ^ k = val X k + val Y k) (hx : X k = xk) (hy : Y k = yk) (hz : Z k = s) (hp : s + c' * BB = xk + yk + c) :
    val Z (k + 1) + c' * BB ^ (k + 1) = val X (k + 1) + val Y (k + 1) := by
  simp only [val, hx, hy, hz, BB_succ]; grind
theorem sub_step {X Y Z : Nat → Int} {c c' xk yk s : Int} {k : Nat} (h : val Z k - c * BB ^ k = val X k - val Y k) (hx : X k = xk) (hy : Y k = yk) (hz : Z k = s) (hp : s - c' * BB = xk - yk - c) :
    val Z (k + 1) - c' * BB ^ (k + 1) = val X (k + 1) - val Y (k + 1) := by
  simp only [val, hx, hy, hz, BB_succ]; grind
set_option maxHeartbeats 4000000 in
theorem addVV_g_any (bx ox bY oY bz oz n cx cy cz : Nat) (X Y : Nat → Int) (w : World) (hn : n < 4611686018427387904) (hX : Words w bx ox n X) (hXw : WF X n) (hY : Words w bY oY n Y) (hYw : WF Y n) (hz : Room w bz oz n) (hf : Fwd bx ox bz oz n) (hg : Fwd bY oY bz oz n) :
    Calls Tryz.prog 222 #[.slice (some ⟨bz, oz, none⟩) n cz, .slice (some ⟨bx, ox, none⟩) n cx, .slice (some ⟨bY, oY, none⟩) n cy] w (OneWord (AddPost w bz oz n X Y)) := by
  have HX := Lib.hid (And.intro hX (And.intro hXw hf))
  have HY := Lib.hid (And.intro hY (And.intro hYw hg))
  have Hz := Lib.hid hz
  clear hX hXw hY hYw hz hf hg
  have hnb : ((n : Int) != (n : Int)) = false := by simp
  go_enter Tryz.func222, Tryz.ntmps222
  go_wp2_with fail
  go_loopw [6, 25] (fun sc si wr => ∃ (k : Nat) (c : Int) (Z : Nat → Int), si = .int .i64 k ∧ sc = .int .u64 c ∧ k ≤ n ∧ Hid (Chg (zRow bz oz k) w wr ∧ Words wr bz oz k Z ∧ WF Z k ∧ (0 ≤ c ∧ c ≤ 1) ∧ val Z k + c * BB ^ k = val X k + val Y k)) (fun sc si _ => n - (intOf si).toNat)
  case atStart => exact ⟨0, 0, fun _ => 0, rfl, rfl, Nat.zero_le _, Chg.refl _ _, fun i hi => by omega, fun i hi => by omega, by omega, by simp [val]⟩
  case round =>
    obtain ⟨k, c, Z, rfl, rfl, hk, H⟩ := hrel
    by_cases hlt : k < n
    · have hxk := fwd_keep HX.out.2.2 hlt H.out.1 (HX.out.1 k hlt)
      have hyk := fwd_keep HY.out.2.2 hlt H.out.1 (HY.out.1 k hlt)
      obtain ⟨⟨zk, hzk0⟩, hzf0⟩ := Hz.out k hlt
      have hzk1 := H.out.1.isCell (by rw [hzk0]; rfl)
      obtain ⟨zv, hzk⟩ := Option.isSome_iff_exists.1 hzk1
      have hzf := (H.out.1.frozen hzk0 (oz + k)).trans hzf0
      clear hzk0 hzf0 hzk1
      obtain ⟨xk, hxe⟩ : ∃ x, X k = x := ⟨_, rfl⟩
      obtain ⟨yk, hye⟩ : ∃ x, Y k = x := ⟨_, rfl⟩
      rw [hxe] at hxk
      rw [hye] at hyk
      have Hxe := Lib.hid hxe
      have Hye := Lib.hid hye
      have hxw : Hid (U64 xk) := by rw [← hxe]; exact HX.out.2.1 k hlt
      have hyw : Hid (U64 yk) := by rw [← hye]; exact HY.out.2.1 k hlt
      clear hxe hye
      go_wp2_with fail
      go_quiet ((go_at_call 223; exact Calls.quiet_of_same (Add_det xk yk c _ hxw.out hyw.out H.out.2.2.2.1)))
      go_wp2
      go_roundw
      case rel =>
        have hs := add_spec hxw.out hyw.out H.out.2.2.2.1
        refine ⟨k + 1, _, upd Z k (addLo xk yk c), by go_num, rfl, hlt, ?_, ?_, WF_upd H.out.2.2.1 hs.1, hs.2.1, ?_⟩
        · exact (chg_snoc H.out.1 _).drewN _
        · exact H.out.2.1.snoc (by rw [hzk]; rfl)
        · exact add_step (by rw [val_upd]; exact H.out.2.2.2.2) Hxe.out Hye.out (upd_same _ _ _) hs.2.2
      case measure => simp [intOf]; omega
    · have hkn : Hid (k = n) := by unfold Hid; omega
      go_wp2
      go_ret
      have e := hkn.out
      subst e
      exact ⟨c, rfl, Z, H.out⟩
def SubPost (w : World) (bz oz n : Nat) (X Y : Nat → Int) (c : Int) (w' : World) : Prop :=
  ∃ Z, Chg (zRow bz oz n) w w' ∧ Words w' bz oz n Z ∧ WF Z n ∧ (0 ≤ c ∧ c ≤ 1) ∧ val Z n - c * BB ^ n = val X n - val Y n
set_option maxHeartbeats 4000000 in
theorem subVV_g_any (bx ox bY oY bz oz n cx cy cz : Nat) (X Y : Nat → Int) (w : World) (hn : n < 4611686018427387904) (hX : Words w bx ox n X) (hXw : WF X n) (hY : Words w bY oY n Y) (hYw : WF Y n) (hz : Room w bz oz n) (hf : Fwd bx ox bz oz n) (hg : Fwd bY oY bz oz n) :
    Calls Tryz.prog 224 #[.slice (some ⟨bz, oz, none⟩) n cz, .slice (some ⟨bx, ox, none⟩) n cx, .slice (some ⟨bY, oY, none⟩) n cy] w (OneWord (SubPost w bz oz n X Y)) := by
  have HX := Lib.hid (And.intro hX (And.intro hXw hf))
  have HY := Lib.hid (And.intro hY (And.intro hYw hg))
  have Hz := Lib.hid hz
  clear hX hXw hY hYw hz hf hg
  have hnb : ((n : Int) != (n : Int)) = false := by simp
  go_enter Tryz.func224, Tryz.ntmps224
  go_wp2_with fail
  go_loopw [6, 25] (fun sc si wr => ∃ (k : Nat) (c : Int) (Z : Nat → Int), si = .int .i64 k ∧ sc = .int .u64 c ∧ k ≤ n ∧ Hid (Chg (zRow bz oz k) w wr ∧ Words wr bz oz k Z ∧ WF Z k ∧ (0 ≤ c ∧ c ≤ 1) ∧ val Z k - c * BB ^ k = val X k - val Y k)) (fun sc si _ => n - (intOf si).toNat)
  case atStart => exact ⟨0, 0, fun _ => 0, rfl, rfl, Nat.zero_le _, Chg.refl _ _, fun i hi => by omega, fun i hi => by omega, by omega, by simp [val]⟩
  case round =>
    obtain ⟨k, c, Z, rfl, rfl, hk, H⟩ := hrel
    by_cases hlt : k < n
    · have hxk := fwd_keep HX.out.2.2 hlt H.out.1 (HX.out.1 k hlt)
      have hyk := fwd_keep HY.out.2.2 hlt H.out.1 (HY.out.1 k hlt)
      obtain ⟨⟨zk, hzk0⟩, hzf0⟩ := Hz.out k hlt
      have hzk1 := H.out.1.isCell (by rw [hzk0]; rfl)
      obtain ⟨zv, hzk⟩ := Option.isSome_iff_exists.1 hzk1
      have hzf := (H.out.1.frozen hzk0 (oz + k)).trans hzf0
      clear hzk0 hzf0 hzk1
      obtain ⟨xk, hxe⟩ : ∃ x, X k = x := ⟨_, rfl⟩
      obtain ⟨yk, hye⟩ : ∃ x, Y k = x := ⟨_, rfl⟩
      rw [hxe] at hxk
      rw [hye] at hyk
      have Hxe := Lib.hid hxe
      have Hye := Lib.hid hye
      have hxw : Hid (U64 xk) := by rw [← hxe]; exact HX.out.2.1 k hlt
      have hyw : Hid (U64 yk) := by rw [← hye]; exact HY.out.2.1 k hlt
      clear hxe hye
      go_wp2_with fail
      go_quiet ((go_at_call 225; exact Calls.quiet_of_same (Sub_det xk yk c _ hxw.out hyw.out H.out.2.2.2.1)))
      go_wp2
      go_roundw
      case rel =>
        have hs := sub_spec hxw.out hyw.out H.out.2.2.2.1
        refine ⟨k + 1, _, upd Z k (subLo xk yk c), by go_num, rfl, hlt, ?_, ?_, WF_upd H.out.2.2.1 hs.1, hs.2.1, ?_⟩
        · exact (chg_snoc H.out.1 _).drewN _
        · exact H.out.2.1.snoc (by rw [hzk]; rfl)
        · exact sub_step (by rw [val_upd]; exact H.out.2.2.2.2) Hxe.out Hye.out (upd_same _ _ _) hs.2.2
      case measure => simp [intOf]; omega
    · have hkn : Hid (k = n) := by unfold Hid; omega
      go_wp2
      go_ret
      have e := hkn.out
      subst e
      exact ⟨c, rfl, Z, H.out⟩

def AddMulPost (w : World) (bz oz n : Nat) (X Y : Nat → Int) (m a c : Int) (w' : World) : Prop :=
  ∃ Z, Chg (zRow bz oz n) w w' ∧ Words w' bz oz n Z ∧ WF Z n ∧ U64 c ∧ val Z n + c * BB ^ n = val X n + val Y n * m + a
theorem mulAdd_det (x y c : Int) (w : World) (hx : U64 x) (hy : U64 y) (hc : U64 c) : ∃ hi lo, (U64 hi ∧ U64 lo ∧ hi * BB + lo = x * y + c) ∧
    ∀ w, Calls Tryz.prog 268 #[.int .u64 x, .int .u64 y, .int .u64 c] w (fun e w' => e = .returned (.tuple #[.int .u64 hi, .int .u64 lo]) ∧ w' = w) := by
  have h0 := mul_le_sq x y hx hy
  refine ⟨(x * y + c) / 18446744073709551616, (x * y + c) % 18446744073709551616, ?_, fun w => ?_⟩
  · obtain ⟨c1, c2⟩ := hc
    unfold U64 BB
    generalize x * y = p at *
    omega
  · refine (mulAddWWW_any x y c w hx hy hc).mono ?_
    rintro e w' ⟨hi, lo, rfl, ⟨⟨h1, h2⟩, ⟨h3, h4⟩, h5⟩, rfl⟩
    have e1 : hi = (x * y + c) / 18446744073709551616 := by unfold BB at h5; generalize x * y = p at *; omega
    have e2 : lo = (x * y + c) % 18446744073709551616 := by unfold BB at h5; generalize x * y = p at *; omega
    rw [← e1, ← e2]; exact ⟨rfl, rfl⟩
theorem addMul_word {x y m c hi lo : Int} (hx : U64 x) (hy : U64 y) (hm : U64 m) (hc : U64 c) (hp : U64 hi ∧ U64 lo ∧ hi * BB + lo = y * m + x) :
    IntKind.u64.wrap (addHi lo c 0 + hi) = addHi lo c 0 + hi ∧ U64 (addHi lo c 0 + hi) ∧ U64 (addLo lo c 0) ∧ addLo lo c 0 + (addHi lo c 0 + hi) * BB = x + y * m + c := by
  have h0 := mul_le_sq y m hy hm
  obtain ⟨⟨h1, h2⟩, h3, h5⟩ := hp
  have hs := add_spec h3 hc (show (0:Int) ≤ 0 ∧ (0:Int) ≤ 1 by omega)
  obtain ⟨⟨x1, x2⟩, ⟨c1, c2⟩⟩ := And.intro hx hc
  obtain ⟨⟨s1, s2⟩, ⟨s3, s4⟩, s5⟩ := hs
  rw [wrap_u64]
  unfold U64 BB at *
  generalize y * m = p at *
  omega
theorem addMul_step {X Y Z : Nat → Int} {c c' xk yk s m a : Int} {k : Nat} (h : val Z k + c * BB ^ k = val X k + val Y k * m + a) (hx : X k = xk) (hy : Y k = yk) (hz : Z k = s) (hp : s + c' * BB = xk + yk * m + c) :
    val Z (k + 1) + c' * BB ^ (k + 1) = val X (k + 1) + val Y (k + 1) * m + a := by
  simp only [val, hx, hy, hz, BB_succ]; grind
set_option maxHeartbeats 4000000 in
theorem addMulVVWW_g_any (bx ox bY oY bz oz n cx cy cz : Nat) (X Y : Nat → Int) (m a : Int) (w : World) (hn : n < 4611686018427387904) (hX : Words w bx ox n X) (hXw : WF X n) (hY : Words w bY oY n Y) (hYw : WF Y n) (hz : Room w bz oz n) (hf : Fwd bx ox bz oz n) (hg : Fwd bY oY bz oz n) (hm : U64 m) (ha : U64 a) :
    Calls Tryz.prog 247 #[.slice (some ⟨bz, oz, none⟩) n cz, .slice (some ⟨bx, ox, none⟩) n cx, .slice (some ⟨bY, oY, none⟩) n cy, .int .u64 m, .int .u64 a] w (OneWord (AddMulPost w bz oz n X Y m a)) := by
  have HX := Lib.hid (And.intro hX (And.intro hXw hf))
  have HY := Lib.hid (And.intro hY (And.intro hYw hg))
  have Hz := Lib.hid hz
  have HM := Lib.hid (And.intro hm ha)
  clear hX hXw hY hYw hz hf hg hm ha
  have hnb : ((n : Int) != (n : Int)) = false := by simp
  go_enter Tryz.func247, Tryz.ntmps247
  go_wp2_with fail
  go_loopw [10, 32] (fun sc si wr => ∃ (k : Nat) (c : Int) (Z : Nat → Int), si = .int .i64 k ∧ sc = .int .u64 c ∧ k ≤ n ∧ Hid (Chg (zRow bz oz k) w wr ∧ Words wr bz oz k Z ∧ WF Z k ∧ U64 c ∧ val Z k + c * BB ^ k = val X k + val Y k * m + a)) (fun sc si _ => n - (intOf si).toNat)
  case atStart => exact ⟨0, a, fun _ => 0, rfl, rfl, Nat.zero_le _, Chg.refl _ _, fun i hi => by omega, fun i hi => by omega, HM.out.2, by simp [val]⟩
  case round =>
    obtain ⟨k, c, Z, rfl, rfl, hk, H⟩ := hrel
    by_cases hlt : k < n
    · have hxk := fwd_keep HX.out.2.2 hlt H.out.1 (HX.out.1 k hlt)
      have hyk := fwd_keep HY.out.2.2 hlt H.out.1 (HY.out.1 k hlt)
      obtain ⟨⟨zk, hzk0⟩, hzf0⟩ := Hz.out k hlt
      have hzk1 := H.out.1.isCell (by rw [hzk0]; rfl)
      obtain ⟨zv, hzk⟩ := Option.isSome_iff_exists.1 hzk1
      have hzf := (H.out.1.frozen hzk0 (oz + k)).trans hzf0
      clear hzk0 hzf0 hzk1
      obtain ⟨xk, hxe⟩ : ∃ x, X k = x := ⟨_, rfl⟩
      obtain ⟨yk, hye⟩ : ∃ x, Y k = x := ⟨_, rfl⟩
      rw [hxe] at hxk
      rw [hye] at hyk
      have Hxe := Lib.hid hxe
      have Hye := Lib.hid hye
      have hxw : Hid (U64 xk) := by rw [← hxe]; exact HX.out.2.1 k hlt
      have hyw : Hid (U64 yk) := by rw [← hye]; exact HY.out.2.1 k hlt
      clear hxe hye
      go_wp2_with fail
      obtain ⟨hi, lo, hp, hcall⟩ := mulAdd_det yk m xk wr hyw.out HM.out.1 hxw.out
      have Hcall := Lib.hid hcall
      have Hp := Lib.hid hp
      clear hp hcall
      go_quiet ((go_at_call 268; exact Calls.quiet_of_same (Hcall.out _)))
      go_wp2_with fail
      refine (Add_det lo c 0 _ Hp.out.2.1 H.out.2.2.2.1 (by omega)).mono ?_
      rintro e w' ⟨rfl, rfl⟩
      go_wp2
      go_roundw
      case rel =>
        have hs := addMul_word hxw.out hyw.out HM.out.1 H.out.2.2.2.1 Hp.out
        refine ⟨k + 1, _, upd Z k (addLo lo c 0), by go_num, rfl, hlt, ?_, ?_, WF_upd H.out.2.2.1 hs.2.2.1, by rw [hs.1]; exact hs.2.1, ?_⟩
        · exact (chg_snoc H.out.1 _).drewN _
        · exact H.out.2.1.snoc (by rw [hzk]; rfl)
        · rw [hs.1]; exact addMul_step (by rw [val_upd]; exact H.out.2.2.2.2) Hxe.out Hye.out (upd_same _ _ _) hs.2.2.2
      case measure => simp [intOf]; omega
    · have hkn : Hid (k = n) := by unfold Hid; omega
      go_wp2
      go_ret
      have e := hkn.out
      subst e
      exact ⟨c, rfl, Z, H.out⟩

theorem addVV_any (bx ox bY oY bz oz n cx cy cz : Nat) (X Y : Nat → Int) (w : World) (hn : n < 4611686018427387904) (hX : Words w bx ox n X) (hXw : WF X n) (hY : Words w bY oY n Y) (hYw : WF Y n) (hz : Room w bz oz n) (hf : Fwd bx ox bz oz n) (hg : Fwd bY oY bz oz n) :
    Calls Tryz.prog 171 #[.slice (some ⟨bz, oz, none⟩) n cz, .slice (some ⟨bx, ox, none⟩) n cx, .slice (some ⟨bY, oY, none⟩) n cy] w (OneWord (AddPost w bz oz n X Y)) := by
  have H := Lib.hid (addVV_g_any bx ox bY oY bz oz n cx cy cz X Y w hn hX hXw hY hYw hz hf hg)
  clear hX hXw hY hYw hz hf hg
  go_enter Tryz.func171, Tryz.ntmps171
  go_wp2_with fail
  refine H.out.mono ?_
  rintro e w1 ⟨c, rfl, hp⟩
  have Hp := Lib.hid hp
  clear hp
  go_wp2
  go_ret
  exact ⟨c, rfl, Hp.out⟩

theorem subVV_any (bx ox bY oY bz oz n cx cy cz : Nat) (X Y : Nat → Int) (w : World) (hn : n < 4611686018427387904) (hX : Words w bx ox n X) (hXw : WF X n) (hY : Words w bY oY n Y) (hYw : WF Y n) (hz : Room w bz oz n) (hf : Fwd bx ox bz oz n) (hg : Fwd bY oY bz oz n) :
    Calls Tryz.prog 173 #[.slice (some ⟨bz, oz, none⟩) n cz, .slice (some ⟨bx, ox, none⟩) n cx, .slice (some ⟨bY, oY, none⟩) n cy] w (OneWord (SubPost w bz oz n X Y)) := by
  have H := Lib.hid (subVV_g_any bx ox bY oY bz oz n cx cy cz X Y w hn hX hXw hY hYw hz hf hg)
  clear hX hXw hY hYw hz hf hg
  go_enter Tryz.func173, Tryz.ntmps173
  go_wp2_with fail
  refine H.out.mono ?_
  rintro e w1 ⟨c, rfl, hp⟩
  have Hp := Lib.hid hp
  clear hp
  go_wp2
  go_ret
  exact ⟨c, rfl, Hp.out⟩

theorem addMulVVWW_any (bx ox bY oY bz oz n cx cy cz : Nat) (X Y : Nat → Int) (m a : Int) (w : World) (hn : n < 4611686018427387904) (hX : Words w bx ox n X) (hXw : WF X n) (hY : Words w bY oY n Y) (hYw : WF Y n) (hz : Room w bz oz n) (hf : Fwd bx ox bz oz n) (hg : Fwd bY oY bz oz n) (hm : U64 m) (ha : U64 a) :
    Calls Tryz.prog 216 #[.slice (some ⟨bz, oz, none⟩) n cz, .slice (some ⟨bx, ox, none⟩) n cx, .slice (some ⟨bY, oY, none⟩) n cy, .int .u64 m, .int .u64 a] w (OneWord (AddMulPost w bz oz n X Y m a)) := by
  have H := Lib.hid (addMulVVWW_g_any bx ox bY oY bz oz n cx cy cz X Y m a w hn hX hXw hY hYw hz hf hg hm ha)
  clear hX hXw hY hYw hz hf hg hm ha
  go_enter Tryz.func216, Tryz.ntmps216
  go_wp2_with fail
  refine H.out.mono ?_
  rintro e w1 ⟨c, rfl, hp⟩
  have Hp := Lib.hid hp
  clear hp
  go_wp2
  go_ret
  exact ⟨c, rfl, Hp.out⟩
end Go.Proofs.YtmgfajamanakcaaGreatDoor
