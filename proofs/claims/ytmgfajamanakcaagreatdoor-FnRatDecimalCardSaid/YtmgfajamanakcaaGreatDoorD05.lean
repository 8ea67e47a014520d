/- Part of the proof of FnParse: what the functions that it reaches do, as contracts. Conditions: those that each theorem names. -/
import Derived.Test.YtmgfajamanakcaaGreatDoorD04
import Derived.Deep.QuietTactic
namespace Go.Proofs.YtmgfajamanakcaaGreatDoor
set_option linter.unusedVariables false
set_option linter.unusedSimpArgs false
open Go.RowKit
def Fresh (w0 : World) (a : Option Addr) : Prop := a = none ∨ ∃ b o, a = some ⟨b, o, none⟩ ∧ w0.heap.size ≤ b
theorem Fresh.home {w0 w : World} {az a : Option Addr} {zc c : Nat} (h : Fresh w0 az) (k : Home w az zc a c) (hw : w0.heap.size ≤ w.heap.size) : Fresh w0 a := by
  rcases k with ⟨e, _⟩ | ⟨b, o, e, hb⟩
  · rw [e]; exact h
  · exact Or.inr ⟨b, o, e, by omega⟩
theorem Fresh.zone {w0 : World} {a : Option Addr} {c : Nat} (h : Fresh w0 a) : ∀ b o, b < w0.heap.size → ¬ zAddr a c b o := by
  rintro b o hb ⟨p, e, _, _⟩
  rcases h with h | ⟨b', o', h, h2⟩
  · rw [h] at e; cases e
  · rw [h] at e; injection e with e; injection e with e; omega
def Grp (w0 w : World) (bn : Int) (a : Option Addr) (n c N : Nat) (V : Int) : Prop :=
  n ≤ c ∧ n ≤ N ∧ ZOK w a c ∧ Fresh w0 a ∧ ∃ X, Rd w a n X ∧ WF X n ∧ ((bn = 0 ∧ val (fun i => X (n - 1 - i)) n = V) ∨ (bn ≠ 0 ∧ val X n = V ∧ Norm X n))
theorem Rd.chg {Z : Zone} {w w' : World} {a : Option Addr} {n c : Nat} {X : Nat → Int} (h : Rd w a n X) (k : Chg Z w w') (hn : n ≤ c) (hz : ∀ b o, zAddr a c b o → ¬ Z b o) : Rd w' a n X := by
  rcases h with h | ⟨b, o, rfl, h⟩
  · exact Or.inl h
  · exact Or.inr ⟨b, o, rfl, h.chg k (fun i hi => hz b (o + i) ⟨o, rfl, by omega, by omega⟩)⟩
theorem Grp.chg {Z : Zone} {w0 w w' : World} {bn : Int} {a : Option Addr} {n c N : Nat} {V : Int} (h : Grp w0 w bn a n c N V) (k : Chg Z w w') (hz : ∀ b o, zAddr a c b o → ¬ Z b o) : Grp w0 w' bn a n c N V := by
  obtain ⟨h1, h2, h3, h4, X, h5, h6, h7⟩ := h
  exact ⟨h1, h2, h3.chg k hz, h4, X, h5.chg k h1 hz, h6, h7⟩
theorem rev_upd (X : Nat → Int) (n : Nat) (x : Int) : val (fun i => upd X n x (n + 1 - 1 - i)) (n + 1) = val (fun i => X (n - 1 - i)) n * BB + x := by
  rw [show n + 1 = 1 + n by omega, val_add, val_one]
  have e : val (fun i => upd X n x (1 + n - 1 - (1 + i))) n = val (fun i => X (n - 1 - i)) n := val_congr fun i hi => by
    show upd X n x (1 + n - 1 - (1 + i)) = X (n - 1 - i)
    rw [show 1 + n - 1 - (1 + i) = n - 1 - i by omega, upd_other X x (by omega)]
  rw [e, show 1 + n - 1 - 0 = n by omega, upd_same]
  rw [Int.pow_succ, Int.pow_zero]; grind
theorem norm_le {X : Nat → Int} {n N : Nat} (h : WF X n) (hn : Norm X n) (hv : val X n < BB ^ N) : n ≤ N := by
  by_cases hm : n ≤ N
  · exact hm
  · exfalso
    obtain ⟨m, rfl⟩ : ∃ m, n = m + 1 := ⟨n - 1, by omega⟩
    simp only [Norm, val, Nat.add_sub_cancel] at hn hv
    rcases hn with hn | hn
    · omega
    · have h1 := val_nonneg (h.le (show m ≤ m + 1 by omega))
      have h2 := Int.mul_le_mul_of_nonneg_right (show 1 ≤ X m by have := (h m (by omega)).1; omega) (Int.le_of_lt (BBn_pos m))
      obtain ⟨d, rfl⟩ : ∃ d, m = N + d := ⟨m - N, by omega⟩
      rw [Int.pow_add] at h2 hv
      have h3 := Int.mul_le_mul_of_nonneg_left (show 1 ≤ BB ^ d by have := BBn_pos d; omega) (Int.le_of_lt (BBn_pos N))
      omega
theorem Grp.app {w0 w w' : World} {a a' : Option Addr} {n c c' N : Nat} {V x : Int} (h : Grp w0 w 0 a n c N V) (hx : U64 x) (hw : w0.heap.size ≤ w.heap.size)
    (k : ∀ X, Rd w a n X → ∃ Y, (∀ i, i < n → Y i = X i) ∧ AppRes w a n c Y x a' c' w') : Grp w0 w' 0 a' (n + 1) c' (N + 1) (V * BB + x) := by
  obtain ⟨h1, h2, h3, h4, X, h5, h6, h7⟩ := h
  obtain ⟨Y, hY, k1, k2, k3, k4, k5⟩ := k X h5
  rcases h7 with ⟨_, h7⟩ | ⟨h7, _⟩
  · refine ⟨k1, by omega, k2, h4.home k4 hw, upd Y n x, k3, WF_upd (h6.congr (fun i hi => (hY i hi).symm)) hx, Or.inl ⟨rfl, ?_⟩⟩
    rw [rev_upd, val_congr (X := fun i => Y (n - 1 - i)) (Y := fun i => X (n - 1 - i)) (fun i hi => hY _ (by omega)), h7]
  · exact absurd rfl h7
theorem Grp.mul {w0 w w' : World} {a : Option Addr} {n c N N' : Nat} {V v bn : Int} {e : Ending} (h : Grp w0 w bn a n c N V) (hbn : bn ≠ 0) (hw : w0.heap.size ≤ w.heap.size) (hv : v < BB ^ N')
    (k : NatRes w a c v e w') : ∃ a' n' c', e = .returned (.slice a' n' c') ∧ Grp w0 w' bn a' n' c' N' v ∧ Chg (zAddr a c) w w' := by
  obtain ⟨h1, h2, h3, h4, X, h5, h6, h7⟩ := h
  obtain ⟨a', n', c', Y, k0, k1, k2, k3, k4, k5, k6, k7, k8⟩ := k
  exact ⟨a', n', c', k0, ⟨k1, norm_le k4 k5 (by rw [k6]; exact hv), k2, h4.home k7 hw, Y, k3, k4, Or.inr ⟨hbn, k6, k5⟩⟩, k8⟩
def BaseOK (b bn : Int) (n : Nat) : Prop := 2 ≤ b ∧ b ≤ 16 ∧ 1 ≤ n ∧ n ≤ 64 ∧ ((bn = 0 ∧ b ^ n = BB ∧ ((b = 2 ∧ n = 64) ∨ (b = 16 ∧ n = 16))) ∨ (bn ≠ 0 ∧ bn = b ^ n ∧ U64 bn))
structure LR (w0 w : World) (b bn : Int) (n : Nat) (st : SS) (a : Option Addr) (zn zc : Nat) (di : Int) (i : Nat) : Prop where
  V0 : ∃ V0 N, Grp w0 w bn a zn zc N V0 ∧ N + i ≤ st.cnt ∧ 0 ≤ V0 ∧ st.V = V0 * b ^ i + di
  hi : i < n
  hd0 : 0 ≤ di
  hd : di < b ^ i
theorem LR.chg {Z : Zone} {w0 w w' : World} {b bn : Int} {n : Nat} {st : SS} {a : Option Addr} {zn zc : Nat} {di : Int} {i : Nat} (h : LR w0 w b bn n st a zn zc di i) (k : Chg Z w w') (hz : ∀ b o, zAddr a zc b o → ¬ Z b o) :
    LR w0 w' b bn n st a zn zc di i := by
  obtain ⟨⟨V0, N, h1, h2, h3, h4⟩, h5, h6, h7⟩ := h
  exact ⟨⟨V0, N, h1.chg k hz, h2, h3, h4⟩, h5, h6, h7⟩
theorem LR.next {w0 w : World} {b bn : Int} {n : Nat} {prev dp V : Int} {inval fr : Bool} {cnt : Nat} {a : Option Addr} {zn zc : Nat} {di d : Int} {i : Nat} (h : LR w0 w b bn n ⟨prev, inval, fr, cnt, dp, V⟩ a zn zc di i) (hi : i + 1 < n)
    (h0 : 0 ≤ di * b + d) (h1 : di * b + d < b ^ (i + 1)) : LR w0 w b bn n ⟨48, inval, fr, cnt + 1, dp, V * b + d⟩ a zn zc (di * b + d) (i + 1) := by
  obtain ⟨⟨V0, N, g1, g2, g3, g4⟩, h5, h6, h7⟩ := h
  simp only at g2 g4
  exact ⟨⟨V0, N, g1, by simp only; omega, g3, by simp only; rw [g4, Int.pow_succ]; grind⟩, hi, h0, h1⟩
theorem LR.app {w0 w : World} {b bn : Int} {n : Nat} {prev dp V : Int} {inval fr : Bool} {cnt : Nat} {a : Option Addr} {zn zc : Nat} {di d x : Int} {i : Nat} (h : LR w0 w b bn n ⟨prev, inval, fr, cnt, dp, V⟩ a zn zc di i) (hb : BaseOK b bn n) (hbn : bn = 0) (hi : i + 1 = n)
    (hx : x = di * b + d) (h1 : U64 (di * b + d)) (hw : w0.heap.size ≤ w.heap.size) (hcnt : cnt < 1048576) (o : Obj) :
    ∃ X, ZOK (w.alloc o) a zc ∧ Rd (w.alloc o) a zn X ∧ zn ≤ zc ∧ zn < 1099511627776 ∧ ∀ a' c' w', AppRes (w.alloc o) a zn zc X x a' c' w' → Chg (zAddr a zc) w w' ∧ LR w0 w' b bn n ⟨48, inval, fr, cnt + 1, dp, V * b + d⟩ a' (zn + 1) c' 0 0 := by
  obtain ⟨⟨V0, N, g1, g2, g3, g4⟩, h5, h6, h7⟩ := h
  simp only at g2 g4
  have kal : Chg zNone w (w.alloc o) := (Chg.refl _ _).alloc o
  have g1' := g1.chg kal (fun _ _ _ h => h)
  obtain ⟨q1, q2, q3, q4, X, q5, q6, q7⟩ := g1'
  have hbb : b ^ n = BB := by
    obtain ⟨_, _, _, _, ⟨_, e, _⟩ | ⟨e, _⟩⟩ := hb
    · exact e
    · exact absurd hbn e
  subst hbn
  subst hx
  refine ⟨X, q3, q5, q1, by omega, fun a' c' w' k => ⟨?_, ?_⟩⟩
  · exact ((Chg.refl (zAddr a zc) w).alloc o).trans k.2.2.2.2 (fun _ _ _ h => h)
  · have r := Grp.app (w0 := w0) (w := w.alloc o) (w' := w') (a := a) (a' := a') (n := zn) (c := zc) (c' := c') (N := N) (V := V0) (x := di * b + d) ⟨q1, q2, q3, q4, X, q5, q6, q7⟩ h1 (by have := kal.size; omega)
      (fun X' hX' => ⟨X, fun i hi => ?_, k⟩)
    · have hv : V * b + d = V0 * BB + (di * b + d) := by rw [← hbb, ← hi, g4, Int.pow_succ]; grind
      refine ⟨⟨V0 * BB + (di * b + d), N + 1, r, by simp only; omega, ?_, by rw [hv]; simp⟩, by have := hb.2.2.1; omega, Int.le_refl _, by simp⟩
      have := Int.mul_nonneg g3 (show (0:Int) ≤ BB by decide)
      have := h1.1
      omega
    · rcases q5 with e | ⟨b1, o1, e, hw1⟩
      · omega
      · rcases hX' with e' | ⟨b2, o2, e', hw2⟩
        · omega
        · rw [e] at e'; injection e' with e'; injection e' with e1 e2; subst e1; subst e2
          have := (hw1 i hi).symm.trans (hw2 i hi)
          injection this with this; injection this
set_option maxRecDepth 100000
def IntC (w : World) (zb zo : Nat) (neg : Bool) (a : Option Addr) (n c : Nat) : Prop :=
  w.cell? ⟨zb, zo, none⟩ = some (.bool neg) ∧ w.cell? ⟨zb, zo + 1, none⟩ = some (.slice a n c) ∧ w.frozen? ⟨zb, zo, none⟩ = false ∧ w.frozen? ⟨zb, zo + 1, none⟩ = false
theorem IntC.chg {Z : Zone} {w w' : World} {zb zo : Nat} {neg : Bool} {a : Option Addr} {n c : Nat} (h : IntC w zb zo neg a n c) (k : Chg Z w w') (hz : ∀ o, o < 2 → ¬ Z zb (zo + o)) : IntC w' zb zo neg a n c := by
  obtain ⟨h0, h1, h2, h3⟩ := h
  exact ⟨k.cell h0 (hz 0 (by omega)), k.cell h1 (hz 1 (by omega)), by rw [k.frozen h0]; exact h2, by rw [k.frozen h0]; exact h3⟩
theorem IntC.abs {w : World} {zb zo : Nat} {neg : Bool} {a a' : Option Addr} {n c n' c' : Nat} (h : IntC w zb zo neg a n c) : IntC (w.setCell ⟨zb, zo + 1, none⟩ (.slice a' n' c')) zb zo neg a' n' c' := by
  obtain ⟨h0, h1, h2, h3⟩ := h
  exact ⟨by rw [cs_other (by omega)]; exact h0, cs_same h1, by rw [fz_set]; exact h2, by rw [fz_set]; exact h3⟩
theorem IntC.sign {w : World} {zb zo : Nat} {neg neg' : Bool} {a : Option Addr} {n c : Nat} (h : IntC w zb zo neg a n c) : IntC (w.setCell ⟨zb, zo, none⟩ (.bool neg')) zb zo neg' a n c := by
  obtain ⟨h0, h1, h2, h3⟩ := h
  exact ⟨cs_same h0, by rw [cs_other (by omega)]; exact h1, by rw [fz_set]; exact h2, by rw [fz_set]; exact h3⟩
theorem IntC.lt {w : World} {zb zo : Nat} {neg : Bool} {a : Option Addr} {n c : Nat} (h : IntC w zb zo neg a n c) : zb < w.heap.size := by
  have h0 := h.1
  unfold World.cell? at h0
  rcases Nat.lt_or_ge zb w.heap.size with hh | hh
  · exact hh
  · rw [Array.getElem?_eq_none hh] at h0
    cases h0
theorem chg_cell (w : World) (b o : Nat) (v : Value) : Chg (zRow b o 1) w (w.setCell ⟨b, o, none⟩ v) := (Chg.refl _ _).setCell b o v (fun _ => ⟨rfl, by omega, by omega⟩)
structure FV where
  p : Int
  md : Int
  ac : Int
  fm : Int
  ng : Bool
  a : Option Addr
  n : Nat
  c : Nat
  e : Int
structure FltC (w : World) (b : Nat) (v : FV) : Prop where
  p : w.cell? ⟨b, 0, none⟩ = some (.int .u32 v.p)
  md : w.cell? ⟨b, 1, none⟩ = some (.int .u8 v.md)
  ac : w.cell? ⟨b, 2, none⟩ = some (.int .i8 v.ac)
  fm : w.cell? ⟨b, 3, none⟩ = some (.int .u8 v.fm)
  ng : w.cell? ⟨b, 4, none⟩ = some (.bool v.ng)
  mt : w.cell? ⟨b, 5, none⟩ = some (.slice v.a v.n v.c)
  ex : w.cell? ⟨b, 6, none⟩ = some (.int .i32 v.e)
  pb : PB w b
theorem PB.fz {w : World} {b : Nat} (h : PB w b) (o : Nat) : w.frozen? ⟨b, o, none⟩ = false := by
  obtain ⟨cs, t, h⟩ := h
  simp only [World.frozen?, h]
  simp
theorem FltC.chg {Z : Zone} {w w' : World} {b : Nat} {v : FV} (h : FltC w b v) (k : Chg Z w w') (hz : ∀ o, o < 7 → ¬ Z b o) : FltC w' b v :=
  ⟨k.cell h.p (hz 0 (by omega)), k.cell h.md (hz 1 (by omega)), k.cell h.ac (hz 2 (by omega)), k.cell h.fm (hz 3 (by omega)), k.cell h.ng (hz 4 (by omega)), k.cell h.mt (hz 5 (by omega)), k.cell h.ex (hz 6 (by omega)), h.pb.chg k⟩
theorem FltC.lt {w : World} {b : Nat} {v : FV} (h : FltC w b v) : b < w.heap.size := h.pb.lt
def addLo (x y c : Int) : Int := (x + y + c) % 18446744073709551616
def addHi (x y c : Int) : Int := (x + y + c) / 18446744073709551616
theorem add_spec {x y c : Int} (hx : U64 x) (hy : U64 y) (hc : 0 ≤ c ∧ c ≤ 1) : U64 (addLo x y c) ∧ (0 ≤ addHi x y c ∧ addHi x y c ≤ 1) ∧ addLo x y c + addHi x y c * BB = x + y + c := by
  obtain ⟨hx0, hx1⟩ := hx
  obtain ⟨hy0, hy1⟩ := hy
  unfold addLo addHi U64 BB
  omega
theorem Add_det (x y c : Int) (w : World) (hx : U64 x) (hy : U64 y) (hc : 0 ≤ c ∧ c ≤ 1) :
    Calls Tryz.prog 223 #[.int .u64 x, .int .u64 y, .int .u64 c] w (fun e w' => e = .returned (.tuple #[.int .u64 (addLo x y c), .int .u64 (addHi x y c)]) ∧ w' = w) := by
  have hs := add_spec hx hy hc
  refine (Add_any x y c w hx hy hc).mono ?_
  rintro e w' ⟨s, c', rfl, ⟨h1, h2, h3⟩, rfl⟩
  obtain ⟨k1, k2, k3⟩ := hs
  have e1 : s = addLo x y c := by unfold U64 BB at *; omega
  have e2 : c' = addHi x y c := by unfold U64 BB at *; omega
  rw [e1, e2]; exact ⟨rfl, rfl⟩
def subLo (x y c : Int) : Int := (x - y - c) % 18446744073709551616
def subHi (x y c : Int) : Int := if x < y + c then 1 else 0
theorem sub_spec {x y c : Int} (hx : U64 x) (hy : U64 y) (hc : 0 ≤ c ∧ c ≤ 1) : U64 (subLo x y c) ∧ (0 ≤ subHi x y c ∧ subHi x y c ≤ 1) ∧ subLo x y c - subHi x y c * BB = x - y - c := by
  obtain ⟨hx0, hx1⟩ := hx
  obtain ⟨hy0, hy1⟩ := hy
  unfold subLo subHi U64 BB
  split <;> omega
theorem Sub_det (x y c : Int) (w : World) (hx : U64 x) (hy : U64 y) (hc : 0 ≤ c ∧ c ≤ 1) :
    Calls Tryz.prog 225 #[.int .u64 x, .int .u64 y, .int .u64 c] w (fun e w' => e = .returned (.tuple #[.int .u64 (subLo x y c), .int .u64 (subHi x y c)]) ∧ w' = w) := by
  have hs := sub_spec hx hy hc
  refine (Sub_any x y c w hx hy hc).mono ?_
  rintro e w' ⟨s, c', rfl, ⟨h1, h2, h3⟩, rfl⟩
  obtain ⟨k1, k2, k3⟩ := hs
  have e1 : s = subLo x y c := by unfold U64 BB at *; omega
  have e2 : c' = subHi x y c := by unfold U64 BB at *; omega
  rw [e1, e2]; exact ⟨rfl, rfl⟩
def AddPost (w : World) (bz oz n : Nat) (X Y : Nat → Int) (c : Int) (w' : World) : Prop :=
  ∃ Z, Chg (zRow bz oz n) w w' ∧ Words w' bz oz n Z ∧ WF Z n ∧ (0 ≤ c ∧ c ≤ 1) ∧ val Z n + c * BB ^ n = val X n + val Y n
theorem add_step {X Y Z : Nat → Int} {c c' xk yk s : Int} {k : Nat} (h : val Z k + c * BB ^ k = val X k + val Y k) (hx : X k = xk) (hy : Y k = yk) (hz : Z k = s) (hp : s + c' * BB = xk + yk + c) :
    val Z (k + 1) + c' * BB ^ (k + 1) = val X (k + 1) + val Y (k + 1) := by
  simp only [val, hx, hy, hz, BB_succ]; grind
theorem sub_step {X Y Z : Nat → Int} {c c' xk yk s : Int} {k : Nat} (h : val Z k - c * BB ^ k = val X k - val Y k) (hx : X k = xk) (hy : Y k = yk) (hz : Z k = s) (hp : s - c' * BB = xk - yk - c) :
    val Z (k + 1) - c' * BB ^ (k + 1) = val X (k + 1) - val Y (k + 1) := by
  simp only [val, hx, hy, hz, BB_succ]; grind
set_option maxHeartbeats 4000000 in
theorem addVV_g_any (bx ox bY oY bz oz n cx cy cz : Nat) (X Y : Nat → Int) (w : World) (hn : n < 4611686018427387904) (hX : Words w bx ox n X) (hXw : WF X n) (hY : Words w bY oY n Y) (hYw : WF Y n) (hz : Room w bz oz n) (hf : Fwd bx ox bz oz n) (hg : Fwd bY oY bz oz n) :
    Calls Tryz.prog 222 #[.slice (some ⟨bz, oz, none⟩) n cz, .slice (some ⟨bx, ox, none⟩) n cx, .slice (some ⟨bY, oY, none⟩) n cy] w (OneWord (AddPost w bz oz n X Y)) := by
  have HX := Lib.hid (And.intro hX (And.intro hXw hf))
  have HY := Lib.hid (And.intro hY (And.intro hYw hg))
  have Hz := Lib.hid hz
  clear hX hXw hY hYw hz hf hg
  have hnb : ((n : Int) != (n : Int)) = false := by simp
  go_enter Tryz.func222, Tryz.ntmps222
  go_wp2_with fail
  go_loopw [6, 25] (fun sc si wr => ∃ (k : Nat) (c : Int) (Z : Nat → Int), si = .int .i64 k ∧ sc = .int .u64 c ∧ k ≤ n ∧ Hid (Chg (zRow bz oz k) w wr ∧ Words wr bz oz k Z ∧ WF Z k ∧ (0 ≤ c ∧ c ≤ 1) ∧ val Z k + c * BB ^ k = val X k + val Y k)) (fun sc si _ => n - (intOf si).toNat)
  case atStart => exact ⟨0, 0, fun _ => 0, rfl, rfl, Nat.zero_le _, Chg.refl _ _, fun i hi => by omega, fun i hi => by omega, by omega, by simp [val]⟩
  case round =>
    obtain ⟨k, c, Z, rfl, rfl, hk, H⟩ := hrel
    by_cases hlt : k < n
    · have hxk := fwd_keep HX.out.2.2 hlt H.out.1 (HX.out.1 k hlt)
      have hyk := fwd_keep HY.out.2.2 hlt H.out.1 (HY.out.1 k hlt)
      obtain ⟨⟨zk, hzk0⟩, hzf0⟩ := Hz.out k hlt
      have hzk1 := H.out.1.isCell (by rw [hzk0]; rfl)
      obtain ⟨zv, hzk⟩ := Option.isSome_iff_exists.1 hzk1
      have hzf := (H.out.1.frozen hzk0 (oz + k)).trans hzf0
      clear hzk0 hzf0 hzk1
      obtain ⟨xk, hxe⟩ : ∃ x, X k = x := ⟨_, rfl⟩
      obtain ⟨yk, hye⟩ : ∃ x, Y k = x := ⟨_, rfl⟩
      rw [hxe] at hxk
      rw [hye] at hyk
      have Hxe := Lib.hid hxe
      have Hye := Lib.hid hye
      have hxw : Hid (U64 xk) := by rw [← hxe]; exact HX.out.2.1 k hlt
      have hyw : Hid (U64 yk) := by rw [← hye]; exact HY.out.2.1 k hlt
      clear hxe hye
      go_wp2_with fail
      go_quiet ((go_at_call 223; exact Calls.quiet_of_same (Add_det xk yk c _ hxw.out hyw.out H.out.2.2.2.1)))
      go_wp2
      go_roundw
      case rel =>
        have hs := add_spec hxw.out hyw.out H.out.2.2.2.1
        refine ⟨k + 1, _, upd Z k (addLo xk yk c), by go_num, rfl, hlt, ?_, ?_, WF_upd H.out.2.2.1 hs.1, hs.2.1, ?_⟩
        · exact (chg_snoc H.out.1 _).drewN _
        · exact H.out.2.1.snoc (by rw [hzk]; rfl)
        · exact add_step (by rw [val_upd]; exact H.out.2.2.2.2) Hxe.out Hye.out (upd_same _ _ _) hs.2.2
      case measure => simp [intOf]; omega
    · have hkn : Hid (k = n) := by unfold Hid; omega
      go_wp2
      go_ret
      have e := hkn.out
      subst e
      exact ⟨c, rfl, Z, H.out⟩
def SubPost (w : World) (bz oz n : Nat) (X Y : Nat → Int) (c : Int) (w' : World) : Prop :=
  ∃ Z, Chg (zRow bz oz n) w w' ∧ Words w' bz oz n Z ∧ WF Z n ∧ (0 ≤ c ∧ c ≤ 1) ∧ val Z n - c * BB ^ n = val X n - val Y n
set_option maxHeartbeats 4000000 in
theorem subVV_g_any (bx ox bY oY bz oz n cx cy cz : Nat) (X Y : Nat → Int) (w : World) (hn : n < 4611686018427387904) (hX : Words w bx ox n X) (hXw : WF X n) (hY : Words w bY oY n Y) (hYw : WF Y n) (hz : Room w bz oz n) (hf : Fwd bx ox bz oz n) (hg : Fwd bY oY bz oz n) :
    Calls Tryz.prog 224 #[.slice (some ⟨bz, oz, none⟩) n cz, .slice (some ⟨bx, ox, none⟩) n cx, .slice (some ⟨bY, oY, none⟩) n cy] w (OneWord (SubPost w bz oz n X Y)) := by
  have HX := Lib.hid (And.intro hX (And.intro hXw hf))
  have HY := Lib.hid (And.intro hY (And.intro hYw hg))
  have Hz := Lib.hid hz
  clear hX hXw hY hYw hz hf hg
  have hnb : ((n : Int) != (n : Int)) = false := by simp
  go_enter Tryz.func224, Tryz.ntmps224
  go_wp2_with fail
  go_loopw [6, 25] (fun sc si wr => ∃ (k : Nat) (c : Int) (Z : Nat → Int), si = .int .i64 k ∧ sc = .int .u64 c ∧ k ≤ n ∧ Hid (Chg (zRow bz oz k) w wr ∧ Words wr bz oz k Z ∧ WF Z k ∧ (0 ≤ c ∧ c ≤ 1) ∧ val Z k - c * BB ^ k = val X k - val Y k)) (fun sc si _ => n - (intOf si).toNat)
  case atStart => exact ⟨0, 0, fun _ => 0, rfl, rfl, Nat.zero_le _, Chg.refl _ _, fun i hi => by omega, fun i hi => by omega, by omega, by simp [val]⟩
  case round =>
    obtain ⟨k, c, Z, rfl, rfl, hk, H⟩ := hrel
    by_cases hlt : k < n
    · have hxk := fwd_keep HX.out.2.2 hlt H.out.1 (HX.out.1 k hlt)
      have hyk := fwd_keep HY.out.2.2 hlt H.out.1 (HY.out.1 k hlt)
      obtain ⟨⟨zk, hzk0⟩, hzf0⟩ := Hz.out k hlt
      have hzk1 := H.out.1.isCell (by rw [hzk0]; rfl)
      obtain ⟨zv, hzk⟩ := Option.isSome_iff_exists.1 hzk1
      have hzf := (H.out.1.frozen hzk0 (oz + k)).trans hzf0
      clear hzk0 hzf0 hzk1
      obtain ⟨xk, hxe⟩ : ∃ x, X k = x := ⟨_, rfl⟩
      obtain ⟨yk, hye⟩ : ∃ x, Y k = x := ⟨_, rfl⟩
      rw [hxe] at hxk
      rw [hye] at hyk
      have Hxe := Lib.hid hxe
      have Hye := Lib.hid hye
      have hxw : Hid (U64 xk) := by rw [← hxe]; exact HX.out.2.1 k hlt
      have hyw : Hid (U64 yk) := by rw [← hye]; exact HY.out.2.1 k hlt
      clear hxe hye
      go_wp2_with fail
      go_quiet ((go_at_call 225; exact Calls.quiet_of_same (Sub_det xk yk c _ hxw.out hyw.out H.out.2.2.2.1)))
      go_wp2
      go_roundw
      case rel =>
        have hs := sub_spec hxw.out hyw.out H.out.2.2.2.1
        refine ⟨k + 1, _, upd Z k (subLo xk yk c), by go_num, rfl, hlt, ?_, ?_, WF_upd H.out.2.2.1 hs.1, hs.2.1, ?_⟩
        · exact (chg_snoc H.out.1 _).drewN _
        · exact H.out.2.1.snoc (by rw [hzk]; rfl)
        · exact sub_step (by rw [val_upd]; exact H.out.2.2.2.2) Hxe.out Hye.out (upd_same _ _ _) hs.2.2
      case measure => simp [intOf]; omega
    · have hkn : Hid (k = n) := by unfold Hid; omega
      go_wp2
      go_ret
      have e := hkn.out
      subst e
      exact ⟨c, rfl, Z, H.out⟩

def AddMulPost (w : World) (bz oz n : Nat) (X Y : Nat → Int) (m a c : Int) (w' : World) : Prop :=
  ∃ Z, Chg (zRow bz oz n) w w' ∧ Words w' bz oz n Z ∧ WF Z n ∧ U64 c ∧ val Z n + c * BB ^ n = val X n + val Y n * m + a
theorem mulAdd_det (x y c : Int) (w : World) (hx : U64 x) (hy : U64 y) (hc : U64 c) : ∃ hi lo, (U64 hi ∧ U64 lo ∧ hi * BB + lo = x * y + c) ∧
    ∀ w, Calls Tryz.prog 268 #[.int .u64 x, .int .u64 y, .int .u64 c] w (fun e w' => e = .returned (.tuple #[.int .u64 hi, .int .u64 lo]) ∧ w' = w) := by
  have h0 := mul_le_sq x y hx hy
  refine ⟨(x * y + c) / 18446744073709551616, (x * y + c) % 18446744073709551616, ?_, fun w => ?_⟩
  · obtain ⟨c1, c2⟩ := hc
    unfold U64 BB
    generalize x * y = p at *
    omega
  · refine (mulAddWWW_any x y c w hx hy hc).mono ?_
    rintro e w' ⟨hi, lo, rfl, ⟨⟨h1, h2⟩, ⟨h3, h4⟩, h5⟩, rfl⟩
    have e1 : hi = (x * y + c) / 18446744073709551616 := by unfold BB at h5; generalize x * y = p at *; omega
    have e2 : lo = (x * y + c) % 18446744073709551616 := by unfold BB at h5; generalize x * y = p at *; omega
    rw [← e1, ← e2]; exact ⟨rfl, rfl⟩
theorem addMul_word {x y m c hi lo : Int} (hx : U64 x) (hy : U64 y) (hm : U64 m) (hc : U64 c) (hp : U64 hi ∧ U64 lo ∧ hi * BB + lo = y * m + x) :
    IntKind.u64.wrap (addHi lo c 0 + hi) = addHi lo c 0 + hi ∧ U64 (addHi lo c 0 + hi) ∧ U64 (addLo lo c 0) ∧ addLo lo c 0 + (addHi lo c 0 + hi) * BB = x + y * m + c := by
  have h0 := mul_le_sq y m hy hm
  obtain ⟨⟨h1, h2⟩, h3, h5⟩ := hp
  have hs := add_spec h3 hc (show (0:Int) ≤ 0 ∧ (0:Int) ≤ 1 by omega)
  obtain ⟨⟨x1, x2⟩, ⟨c1, c2⟩⟩ := And.intro hx hc
  obtain ⟨⟨s1, s2⟩, ⟨s3, s4⟩, s5⟩ := hs
  rw [wrap_u64]
  unfold U64 BB at *
  generalize y * m = p at *
  omega
theorem addMul_step {X Y Z : Nat → Int} {c c' xk yk s m a : Int} {k : Nat} (h : val Z k + c * BB ^ k = val X k + val Y k * m + a) (hx : X k = xk) (hy : Y k = yk) (hz : Z k = s) (hp : s + c' * BB = xk + yk * m + c) :
    val Z (k + 1) + c' * BB ^ (k + 1) = val X (k + 1) + val Y (k + 1) * m + a := by
  simp only [val, hx, hy, hz, BB_succ]; grind
set_option maxHeartbeats 4000000 in
theorem addMulVVWW_g_any (bx ox bY oY bz oz n cx cy cz : Nat) (X Y : Nat → Int) (m a : Int) (w : World) (hn : n < 4611686018427387904) (hX : Words w bx ox n X) (hXw : WF X n) (hY : Words w bY oY n Y) (hYw : WF Y n) (hz : Room w bz oz n) (hf : Fwd bx ox bz oz n) (hg : Fwd bY oY bz oz n) (hm : U64 m) (ha : U64 a) :
    Calls Tryz.prog 247 #[.slice (some ⟨bz, oz, none⟩) n cz, .slice (some ⟨bx, ox, none⟩) n cx, .slice (some ⟨bY, oY, none⟩) n cy, .int .u64 m, .int .u64 a] w (OneWord (AddMulPost w bz oz n X Y m a)) := by
  have HX := Lib.hid (And.intro hX (And.intro hXw hf))
  have HY := Lib.hid (And.intro hY (And.intro hYw hg))
  have Hz := Lib.hid hz
  have HM := Lib.hid (And.intro hm ha)
  clear hX hXw hY hYw hz hf hg hm ha
  have hnb : ((n : Int) != (n : Int)) = false := by simp
  go_enter Tryz.func247, Tryz.ntmps247
  go_wp2_with fail
  go_loopw [10, 32] (fun sc si wr => ∃ (k : Nat) (c : Int) (Z : Nat → Int), si = .int .i64 k ∧ sc = .int .u64 c ∧ k ≤ n ∧ Hid (Chg (zRow bz oz k) w wr ∧ Words wr bz oz k Z ∧ WF Z k ∧ U64 c ∧ val Z k + c * BB ^ k = val X k + val Y k * m + a)) (fun sc si _ => n - (intOf si).toNat)
  case atStart => exact ⟨0, a, fun _ => 0, rfl, rfl, Nat.zero_le _, Chg.refl _ _, fun i hi => by omega, fun i hi => by omega, HM.out.2, by simp [val]⟩
  case round =>
    obtain ⟨k, c, Z, rfl, rfl, hk, H⟩ := hrel
    by_cases hlt : k < n
    · have hxk := fwd_keep HX.out.2.2 hlt H.out.1 (HX.out.1 k hlt)
      have hyk := fwd_keep HY.out.2.2 hlt H.out.1 (HY.out.1 k hlt)
      obtain ⟨⟨zk, hzk0⟩, hzf0⟩ := Hz.out k hlt
      have hzk1 := H.out.1.isCell (by rw [hzk0]; rfl)
      obtain ⟨zv, hzk⟩ := Option.isSome_iff_exists.1 hzk1
      have hzf := (H.out.1.frozen hzk0 (oz + k)).trans hzf0
      clear hzk0 hzf0 hzk1
      obtain ⟨xk, hxe⟩ : ∃ x, X k = x := ⟨_, rfl⟩
      obtain ⟨yk, hye⟩ : ∃ x, Y k = x := ⟨_, rfl⟩
      rw [hxe] at hxk
      rw [hye] at hyk
      have Hxe := Lib.hid hxe
      have Hye := Lib.hid hye
      have hxw : Hid (U64 xk) := by rw [← hxe]; exact HX.out.2.1 k hlt
      have hyw : Hid (U64 yk) := by rw [← hye]; exact HY.out.2.1 k hlt
      clear hxe hye
      go_wp2_with fail
      obtain ⟨hi, lo, hp, hcall⟩ := mulAdd_det yk m xk wr hyw.out HM.out.1 hxw.out
      have Hcall := Lib.hid hcall
      have Hp := Lib.hid hp
      clear hp hcall
      go_quiet ((go_at_call 268; exact Calls.quiet_of_same (Hcall.out _)))
      go_wp2_with fail
      refine (Add_det lo c 0 _ Hp.out.2.1 H.out.2.2.2.1 (by omega)).mono ?_
      rintro e w' ⟨rfl, rfl⟩
      go_wp2
      go_roundw
      case rel =>
        have hs := addMul_word hxw.out hyw.out HM.out.1 H.out.2.2.2.1 Hp.out
        refine ⟨k + 1, _, upd Z k (addLo lo c 0), by go_num, rfl, hlt, ?_, ?_, WF_upd H.out.2.2.1 hs.2.2.1, by rw [hs.1]; exact hs.2.1, ?_⟩
        · exact (chg_snoc H.out.1 _).drewN _
        · exact H.out.2.1.snoc (by rw [hzk]; rfl)
        · rw [hs.1]; exact addMul_step (by rw [val_upd]; exact H.out.2.2.2.2) Hxe.out Hye.out (upd_same _ _ _) hs.2.2.2
      case measure => simp [intOf]; omega
    · have hkn : Hid (k = n) := by unfold Hid; omega
      go_wp2
      go_ret
      have e := hkn.out
      subst e
      exact ⟨c, rfl, Z, H.out⟩

theorem addVV_any (bx ox bY oY bz oz n cx cy cz : Nat) (X Y : Nat → Int) (w : World) (hn : n < 4611686018427387904) (hX : Words w bx ox n X) (hXw : WF X n) (hY : Words w bY oY n Y) (hYw : WF Y n) (hz : Room w bz oz n) (hf : Fwd bx ox bz oz n) (hg : Fwd bY oY bz oz n) :
    Calls Tryz.prog 171 #[.slice (some ⟨bz, oz, none⟩) n cz, .slice (some ⟨bx, ox, none⟩) n cx, .slice (some ⟨bY, oY, none⟩) n cy] w (OneWord (AddPost w bz oz n X Y)) := by
  have H := Lib.hid (addVV_g_any bx ox bY oY bz oz n cx cy cz X Y w hn hX hXw hY hYw hz hf hg)
  clear hX hXw hY hYw hz hf hg
  go_enter Tryz.func171, Tryz.ntmps171
  go_wp2_with fail
  refine H.out.mono ?_
  rintro e w1 ⟨c, rfl, hp⟩
  have Hp := Lib.hid hp
  clear hp
  go_wp2
  go_ret
  exact ⟨c, rfl, Hp.out⟩

theorem subVV_any (bx ox bY oY bz oz n cx cy cz : Nat) (X Y : Nat → Int) (w : World) (hn : n < 4611686018427387904) (hX : Words w bx ox n X) (hXw : WF X n) (hY : Words w bY oY n Y) (hYw : WF Y n) (hz : Room w bz oz n) (hf : Fwd bx ox bz oz n) (hg : Fwd bY oY bz oz n) :
    Calls Tryz.prog 173 #[.slice (some ⟨bz, oz, none⟩) n cz, .slice (some ⟨bx, ox, none⟩) n cx, .slice (some ⟨bY, oY, none⟩) n cy] w (OneWord (SubPost w bz oz n X Y)) := by
  have H := Lib.hid (subVV_g_any bx ox bY oY bz oz n cx cy cz X Y w hn hX hXw hY hYw hz hf hg)
  clear hX hXw hY hYw hz hf hg
  go_enter Tryz.func173, Tryz.ntmps173
  go_wp2_with fail
  refine H.out.mono ?_
  rintro e w1 ⟨c, rfl, hp⟩
  have Hp := Lib.hid hp
  clear hp
  go_wp2
  go_ret
  exact ⟨c, rfl, Hp.out⟩

theorem addMulVVWW_any (bx ox bY oY bz oz n cx cy cz : Nat) (X Y : Nat → Int) (m a : Int) (w : World) (hn : n < 4611686018427387904) (hX : Words w bx ox n X) (hXw : WF X n) (hY : Words w bY oY n Y) (hYw : WF Y n) (hz : Room w bz oz n) (hf : Fwd bx ox bz oz n) (hg : Fwd bY oY bz oz n) (hm : U64 m) (ha : U64 a) :
    Calls Tryz.prog 216 #[.slice (some ⟨bz, oz, none⟩) n cz, .slice (some ⟨bx, ox, none⟩) n cx, .slice (some ⟨bY, oY, none⟩) n cy, .int .u64 m, .int .u64 a] w (OneWord (AddMulPost w bz oz n X Y m a)) := by
  have H := Lib.hid (addMulVVWW_g_any bx ox bY oY bz oz n cx cy cz X Y m a w hn hX hXw hY hYw hz hf hg hm ha)
  clear hX hXw hY hYw hz hf hg hm ha
  go_enter Tryz.func216, Tryz.ntmps216
  go_wp2_with fail
  refine H.out.mono ?_
  rintro e w1 ⟨c, rfl, hp⟩
  have Hp := Lib.hid hp
  clear hp
  go_wp2
  go_ret
  exact ⟨c, rfl, Hp.out⟩
end Go.Proofs.YtmgfajamanakcaaGreatDoor
