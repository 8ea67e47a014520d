/-
  Vectors of words: mulAddVWW. Conditions: the rows are there, the places read are not written ahead of their reading.
-/
import Derived.Test.YtmgfajamanakcaaGreatDoorArith
import Derived.Deep.LoopGhost
import Derived.CellFam
namespace Go.Proofs.YtmgfajamanakcaaGreatDoor
open Go.RowKit
set_option maxRecDepth 100000
set_option linter.unusedVariables false
/-- Reading x while z is written from below: x's place k is not written ahead of its reading. -/
def Fwd (bx ox bz oz n : Nat) : Prop := bx ≠ bz ∨ oz ≤ ox ∨ ox + n ≤ oz
def OneWord (P : Int → World → Prop) (e : Ending) (w' : World) : Prop := ∃ c : Int, e = .returned (.int .u64 c) ∧ P c w'
def MulAddPost (w : World) (bz oz n : Nat) (X : Nat → Int) (y r c : Int) (w' : World) : Prop :=
  ∃ Z, Chg (zRow bz oz n) w w' ∧ Words w' bz oz n Z ∧ WF Z n ∧ U64 c ∧ val Z n + c * BB ^ n = val X n * y + r
theorem fwd_keep {w wr : World} {bx ox bz oz n k : Nat} {v : Value} (hf : Fwd bx ox bz oz n) (hk : k < n) (hc : Chg (zRow bz oz k) w wr) (hx : w.cell? ⟨bx, ox + k, none⟩ = some v) : wr.cell? ⟨bx, ox + k, none⟩ = some v :=
  hc.cell hx (by rintro ⟨h1, h2, h3⟩; rcases hf with h | h | h <;> omega)
theorem muladd_step {X Z : Nat → Int} {y r c xk hi lo : Int} {k : Nat} (h : val Z k + c * BB ^ k = val X k * y + r) (hx : X k = xk) (hz : Z k = lo) (hp : hi * BB + lo = xk * y + c) :
    val Z (k + 1) + hi * BB ^ (k + 1) = val X (k + 1) * y + r := by
  simp only [val, hx, hz, BB_succ]
  grind
/-- Z with lo at place k. -/
def upd (Z : Nat → Int) (k : Nat) (v : Int) : Nat → Int := fun i => if i = k then v else Z i
theorem upd_same (Z : Nat → Int) (k : Nat) (v : Int) : upd Z k v k = v := by simp [upd]
theorem upd_other (Z : Nat → Int) {k i : Nat} (v : Int) (h : i ≠ k) : upd Z k v i = Z i := by simp [upd, h]
theorem val_upd (Z : Nat → Int) (k : Nat) (v : Int) : val (upd Z k v) k = val Z k := val_congr fun i hi => upd_other Z v (by omega)
theorem WF_upd {Z : Nat → Int} {k : Nat} {v : Int} (h : WF Z k) (hv : U64 v) : WF (upd Z k v) (k + 1) := fun i hi => by
  by_cases hik : i = k
  · subst hik; rw [upd_same]; exact hv
  · rw [upd_other Z v hik]; exact h i (by omega)
/-- The next word written behind k words. -/
theorem Words.snoc {w : World} {b off k : Nat} {Z : Nat → Int} {v : Int} (h : Words w b off k Z) (hc : (w.cell? ⟨b, off + k, none⟩).isSome = true) :
    Words (w.setCell ⟨b, off + k, none⟩ (.int .u64 v)) b off (k + 1) (upd Z k v) := fun i hi => by
  by_cases hik : i = k
  · subst hik; rw [upd_same]; exact World.cell?_setCell_same' _ _ _ hc
  · rw [upd_other Z v hik]
    have e : (w.setCell ⟨b, off + k, none⟩ (.int .u64 v)).cell? ⟨b, off + i, none⟩ = w.cell? ⟨b, off + i, none⟩ := World.cell?_setCell_other w _ _ _ (by intro h; injection h with _ h2 _; omega)
    rw [e]; exact h i (by omega)
theorem chg_snoc {w wr : World} {b off k : Nat} (h : Chg (zRow b off k) w wr) (v : Value) : Chg (zRow b off (k + 1)) w (wr.setCell ⟨b, off + k, none⟩ v) :=
  (h.mono (fun _ _ _ hz => ⟨hz.1, hz.2.1, by have := hz.2.2; omega⟩)).setCell b (off + k) v (fun _ => ⟨rfl, by omega, by omega⟩)
set_option maxHeartbeats 2000000 in
theorem mulAddVWW_g_any (bx ox bz oz n cx cz : Nat) (X : Nat → Int) (y r : Int) (w : World) (hn : n < 4611686018427387904) (hX : Words w bx ox n X) (hXw : WF X n) (hz : Room w bz oz n) (hf : Fwd bx ox bz oz n) (hy : U64 y) (hr : U64 r) :
    Calls Tryz.prog 246 #[.slice (some ⟨bz, oz, none⟩) n cz, .slice (some ⟨bx, ox, none⟩) n cx, .int .u64 y, .int .u64 r] w (OneWord (MulAddPost w bz oz n X y r)) := by
  have Hy := Lib.hid hy
  have Hr := Lib.hid hr
  have HX := Lib.hid hX
  have HXw := Lib.hid hXw
  have Hz := Lib.hid hz
  have Hf := Lib.hid hf
  clear hy hr hX hXw hz hf
  go_enter Tryz.func246, Tryz.ntmps246
  go_wp2_with fail
  go_loopw [8, 19] (fun sc si wr => ∃ (k : Nat) (c : Int) (Z : Nat → Int), si = .int .i64 k ∧ sc = .int .u64 c ∧ k ≤ n ∧ Hid (Chg (zRow bz oz k) w wr ∧ Words wr bz oz k Z ∧ WF Z k ∧ U64 c ∧ val Z k + c * BB ^ k = val X k * y + r)) (fun sc si _ => n - (intOf si).toNat)
  case atStart => exact ⟨0, r, fun _ => 0, rfl, rfl, Nat.zero_le _, Chg.refl _ _, fun i hi => by omega, fun i hi => by omega, Hr.out, by simp [val]⟩
  case round =>
    obtain ⟨k, c, Z, rfl, rfl, hk, H⟩ := hrel
    by_cases hlt : k < n
    · have hxk := fwd_keep Hf.out hlt H.out.1 (HX.out k hlt)
      obtain ⟨⟨zk, hzk0⟩, hzf0⟩ := Hz.out k hlt
      have hzk1 := H.out.1.isCell (by rw [hzk0]; rfl)
      obtain ⟨zv, hzk⟩ := Option.isSome_iff_exists.1 hzk1
      have hzf := (H.out.1.frozen hzk0 (oz + k)).trans hzf0
      clear hzk0 hzf0 hzk1
      obtain ⟨xk, hxe⟩ : ∃ x, X k = x := ⟨_, rfl⟩
      rw [hxe] at hxk
      have Hxe := Lib.hid hxe
      have hxw : Hid (U64 xk) := by rw [← hxe]; exact HXw.out k hlt
      clear hxe
      go_wp2_with fail
      refine (mulAddWWW_any xk y c _ hxw.out Hy.out H.out.2.2.2.1).mono ?_
      rintro e w' ⟨hi, lo, rfl, hp, rfl⟩
      have Hp := Lib.hid hp
      clear hp
      go_wp2
      go_roundw
      case rel =>
        refine ⟨k + 1, hi, upd Z k lo, by go_num, rfl, hlt, chg_snoc H.out.1 _, H.out.2.1.snoc (by rw [hzk]; rfl), WF_upd H.out.2.2.1 Hp.out.2.1, Hp.out.1, ?_⟩
        exact muladd_step (by rw [val_upd]; exact H.out.2.2.2.2) Hxe.out (upd_same _ _ _) Hp.out.2.2
      case measure => simp [intOf]; omega
    · have hkn : Hid (k = n) := by unfold Hid; omega
      go_wp2
      go_ret
      have e := hkn.out
      subst e
      exact ⟨c, rfl, Z, H.out⟩
theorem mulAddVWW_any (bx ox bz oz n cx cz : Nat) (X : Nat → Int) (y r : Int) (w : World) (hn : n < 4611686018427387904) (hX : Words w bx ox n X) (hXw : WF X n) (hz : Room w bz oz n) (hf : Fwd bx ox bz oz n) (hy : U64 y) (hr : U64 r) :
    Calls Tryz.prog 215 #[.slice (some ⟨bz, oz, none⟩) n cz, .slice (some ⟨bx, ox, none⟩) n cx, .int .u64 y, .int .u64 r] w (OneWord (MulAddPost w bz oz n X y r)) := by
  have H := Lib.hid (mulAddVWW_g_any bx ox bz oz n cx cz X y r w hn hX hXw hz hf hy hr)
  clear hX hXw hz hf hy hr
  go_enter Tryz.func215, Tryz.ntmps215
  go_wp2_with fail
  refine H.out.mono ?_
  rintro e w1 ⟨c, rfl, hp⟩
  have Hp := Lib.hid hp
  clear hp
  go_wp2
  go_ret
  exact ⟨c, rfl, Hp.out⟩
end Go.Proofs.YtmgfajamanakcaaGreatDoor
