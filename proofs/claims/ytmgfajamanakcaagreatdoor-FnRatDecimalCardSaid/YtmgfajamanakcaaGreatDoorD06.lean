/- Part of the proof of FnParse: what the functions that it reaches do, as contracts. Conditions: those that each theorem names. -/
import Derived.Test.YtmgfajamanakcaaGreatDoorD05
import Derived.Test.YtmgfajamanakcaaGreatDoorD04
import Derived.Lib.SliceRun
import Derived.Deep.RegionWith
import Derived.Deep.DeepCutAuto
import Derived.Outline
import Derived.IntWalk
namespace Go.Proofs.YtmgfajamanakcaaGreatDoor
set_option linter.unusedVariables false
set_option linter.unusedSimpArgs false
open Go.RowKit
set_option maxRecDepth 100000
theorem replicate_words (n : Nat) : List.replicate n (Value.int .u64 0) = wordVals (fun _ => 0) n := by
  unfold wordVals
  apply List.ext_getElem
  · simp
  · intro i h1 h2; simp
theorem zero153 (w : World) : (zeroValue 153).run Tryz.prog w = .ok (.int .u64 0) w := by kernel_rfl
theorem run_clear_word (t1 ty : TypeId) (hu : Tryz.prog.underlying t1 = some (.slice 153)) (b o n c : Nat) (W : World) (hn : 0 < n) (hz : Room W b o n) :
    ∃ W', (Builtin.clear_ #[t1] ty #[.slice (some ⟨b, o, none⟩) n c]).run Tryz.prog W = .ok (.tuple #[]) W' ∧ Chg (zRow b o n) W W' ∧ Words W' b o n (fun _ => 0) ∧ (∀ b' o' m, Room W b' o' m → Room W' b' o' m) := by
  have hrun := Lib.run_clear_slice (P := Tryz.prog) W t1 153 ty (.int .u64 0) hu zero153 rfl rfl b o n c hn
    (fun j hj => by obtain ⟨⟨y, hy⟩, _⟩ := hz j hj; rw [hy]; rfl) (fun j hj => (hz j hj).2)
  rw [replicate_words] at hrun
  refine ⟨_, hrun, ?_, words_setCells b o n _ W (fun j hj => ?_), fun _ _ _ h => room_setCells b o n _ _ _ _ _ h⟩
  · have := chg_setCells b (wordVals (fun _ => 0) n) o W
    rwa [wordVals_length] at this
  · obtain ⟨⟨y, hy⟩, _⟩ := hz j hj
    rw [hy]; rfl
theorem wpList_clear_word {ops : Array Oper} {rest : List Oper} {op : Oper} {act : Act} {w : World} {Q : Exit → Act → World → Prop} (hgd : op.guard = none) (s : Operand) (t1 : TypeId)
    (ho : op.op = .call { callee := .builtin .clear, args := #[s], argTypes := #[t1] }) (hu : Tryz.prog.underlying t1 = some (.slice 153))
    (b o n c : Nat) (hs : act.eval s = .slice (some ⟨b, o, none⟩) n c) (hn : 0 < n) (hz : Room w b o n)
    (h : ∀ w', Chg (zRow b o n) w w' ∧ Words w' b o n (fun _ => 0) ∧ (∀ b' o' m, Room w b' o' m → Room w' b' o' m) → wpList Tryz.prog ops Q rest (act.put op.dst (.tuple #[])) w') : wpList Tryz.prog ops Q (op :: rest) act w :=
  wpList_plain hgd fun K hK => by
    obtain ⟨w', hrun, h2⟩ := run_clear_word t1 op.type hu b o n c w hn hz
    unfold Oper.wp execOp
    simp only [ho, resolve, invoke, builtin, Sem.run_bind, Sem.run_pure, Result.andThen_ok, List.map_toArray, List.map_cons, List.map_nil, hs, hrun]
    exact hK _ _ (h w' h2)
def splice (Z : Nat → Int) (i m : Nat) (Y : Nat → Int) : Nat → Int := fun j => if i ≤ j ∧ j < i + m then Y (j - i) else Z j
theorem splice_in {Z Y : Nat → Int} {i m j : Nat} (h : j < m) : splice Z i m Y (i + j) = Y j := by
  unfold splice; rw [if_pos (by omega)]; congr 1; omega
theorem splice_out {Z Y : Nat → Int} {i m j : Nat} (h : j < i ∨ i + m ≤ j) : splice Z i m Y j = Z j := by
  unfold splice; rw [if_neg (by omega)]
theorem Words.splice {Zn : Zone} {w w' : World} {b o n i m : Nat} {Z Y : Nat → Int} (h : Words w b o n Z) (k : Chg (zRow b (o + i) m) w w') (hY : Words w' b (o + i) m Y) (hn : i + m ≤ n) : Words w' b o n (splice Z i m Y) := fun j hj => by
  by_cases e : i ≤ j ∧ j < i + m
  · have := hY (j - i) (by omega)
    rw [show o + i + (j - i) = o + j by omega] at this
    unfold Go.Proofs.YtmgfajamanakcaaGreatDoor.splice; rw [if_pos e]; exact this
  · rw [splice_out (by omega)]
    exact k.cell (h j hj) (by rintro ⟨_, h2, h3⟩; omega)
theorem WF_splice {Z Y : Nat → Int} {n i m : Nat} (h : WF Z n) (hY : WF Y m) : WF (splice Z i m Y) n := fun j hj => by
  by_cases e : i ≤ j ∧ j < i + m
  · unfold splice; rw [if_pos e]; exact hY _ (by omega)
  · rw [splice_out (by omega)]; exact h j hj
theorem val_splice {Z Y : Nat → Int} {i m : Nat} : val (splice Z i m Y) (i + m) = val Z i + BB ^ i * val Y m := by
  rw [val_add, val_congr (X := splice Z i m Y) (Y := Z) (fun j hj => splice_out (by omega)), val_congr (X := fun j => splice Z i m Y (i + j)) (Y := Y) (fun j hj => splice_in hj)]
def BasicPost (w : World) (bz oz m n : Nat) (X Y : Nat → Int) (e : Ending) (w' : World) : Prop :=
  (∃ v, e = .returned v) ∧ ∃ Z, Chg (zRow bz oz (m + n)) w w' ∧ Words w' bz oz (m + n) Z ∧ WF Z (m + n) ∧ val Z (m + n) = val X m * val Y n
theorem basic_step {X Y Z Z1 : Nat → Int} {c d : Int} {m i : Nat} (h : val Z (m + i) = val X m * val Y i) (hd : Y i = d) (hp : val Z1 m + c * BB ^ m = val (fun j => Z (i + j)) m + val X m * d + 0) :
    val (upd (splice Z i m Z1) (m + i) c) (m + i + 1) = val X m * val Y (i + 1) := by
  simp only [val]
  rw [val_upd, upd_same, hd, Nat.add_comm m i, val_splice, Int.pow_add]
  have e := val_add Z i m
  rw [Nat.add_comm i m, h] at e
  have : BB ^ i * (val Z1 m + c * BB ^ m) = BB ^ i * (val (fun j => Z (i + j)) m + val X m * d) := by rw [hp]; simp
  grind
theorem basic_skip {X Y Z : Nat → Int} {m i : Nat} (h : val Z (m + i) = val X m * val Y i) (hd : Y i = 0) (hz : Z (m + i) = 0) : val Z (m + i + 1) = val X m * val Y (i + 1) := by
  simp only [val]; rw [h, hd, hz]; simp
set_option maxHeartbeats 4000000 in
theorem basicMul_any (bx ox bY oY bz oz m n cx cy zl cz : Nat) (X Y : Nat → Int) (w : World) (hm0 : 0 < m) (hn0 : 0 < n) (hm : m < 1099511627776) (hn : n < 1099511627776) (hX : Words w bx ox m X) (hXw : WF X m) (hY : Words w bY oY n Y) (hYw : WF Y n) (hz : Room w bz oz (m + n))
    (hzl : zl = m + n) (hcz : m + n ≤ cz) (hf : ∀ i, i < m → ¬ zRow bz oz (m + n) bx (ox + i)) (hg : ∀ i, i < n → ¬ zRow bz oz (m + n) bY (oY + i)) :
    Calls Tryz.prog 165 #[.slice (some ⟨bz, oz, none⟩) zl cz, .slice (some ⟨bx, ox, none⟩) m cx, .slice (some ⟨bY, oY, none⟩) n cy] w (BasicPost w bz oz m n X Y) := by
  have HX := Lib.hid (And.intro hX (And.intro hXw hf))
  have HY := Lib.hid (And.intro hY (And.intro hYw hg))
  have Hz := Lib.hid hz
  clear hX hXw hY hYw hz hf hg
  subst hzl
  go_enter Tryz.func165, Tryz.ntmps165
  go_wp2_with (with_reducible refine wpList_clear_word rfl (.tmp 14) 120 rfl Tryz.underlying120 bz oz (m + n) cz rfl (by omega) Hz.out ?_; rintro w2 hw2; have HW := Lib.hid hw2; clear hw2)
  obtain ⟨Z0, HZ0⟩ : ∃ Z, Hid (Chg (zRow bz oz (m + n)) w w2 ∧ Words w2 bz oz (m + n) Z ∧ WF Z (m + n) ∧ (∀ j, j < m + n → Z j = 0)) := ⟨_, HW.out.1, HW.out.2.1, fun i hi => ⟨Int.le_refl _, (show (0:Int) < 18446744073709551616 by decide)⟩, fun j hj => rfl⟩
  clear HW
  go_loopw [17] (fun si wr => ∃ (i : Nat) (Z : Nat → Int), si = .int .i64 i ∧ i ≤ n ∧ Hid (Chg (zRow bz oz (m + n)) w wr ∧ Words wr bz oz (m + n) Z ∧ WF Z (m + n) ∧ (∀ j, m + i ≤ j → j < m + n → Z j = 0) ∧ val Z (m + i) = val X m * val Y i)) (fun si _ => n - (intOf si).toNat)
  case atStart => exact ⟨0, Z0, rfl, Nat.zero_le _, HZ0.out.1, HZ0.out.2.1, HZ0.out.2.2.1, fun j _ hj => HZ0.out.2.2.2 j hj, by rw [Nat.add_zero, val_zeros (fun j hj => HZ0.out.2.2.2 j (by omega))]; simp [val]⟩
  case round =>
    obtain ⟨i, Z, rfl, hi, H⟩ := hrel
    by_cases hlt : i < n
    · obtain ⟨d, hd⟩ : ∃ d, Y i = d := ⟨_, rfl⟩
      have hyk := H.out.1.cell (HY.out.1 i hlt) (HY.out.2.2 i hlt)
      rw [hd] at hyk
      have Hd := Lib.hid hd
      have hdw : Hid (U64 d) := by rw [← hd]; exact HY.out.2.1 i hlt
      clear hd
      by_cases hd0 : d = 0
      · subst hd0
        go_wp2
        go_roundw
        case rel =>
          refine ⟨i + 1, Z, by go_num, hlt, H.out.1, H.out.2.1, H.out.2.2.1, fun j h1 h2 => H.out.2.2.2.1 j (by omega) h2, ?_⟩
          exact basic_skip H.out.2.2.2.2 Hd.out (H.out.2.2.2.1 (m + i) (by omega) (by omega))
        case measure => simp [intOf]; omega
      · have hdb : (d != 0) = true := by simp [hd0]
        have hdb2 : (d == 0) = false := by simp [hd0]
        have HC := Lib.hid (addMulVVWW_any bz (oz + i) bx ox bz (oz + i) m (cz - i) cx (cz - i) (fun j => Z (i + j)) X d 0 wr.drew (by omega) (H.out.2.1.drop i m (by omega)) (fun j hj => H.out.2.2.1 (i + j) (by omega)) (fun j hj => H.out.1.cell (HX.out.1 j hj) (HX.out.2.2 j hj)) HX.out.2.1
          (fun j hj => ⟨⟨_, by have := H.out.2.1 (i + j) (by omega); rwa [← Nat.add_assoc] at this⟩, by obtain ⟨⟨z0, hz0⟩, hf0⟩ := Hz.out (i + j) (by omega); rw [Nat.add_assoc]; show wr.frozen? _ = false; rw [H.out.1.frozen hz0]; exact hf0⟩)
          (Or.inr (Or.inl (Nat.le_refl _))) (by
            by_cases hb : bx = bz
            · right
              by_cases h1 : ox + m ≤ oz + i
              · exact Or.inr h1
              · left
                by_cases h2 : oz + i ≤ ox
                · exact h2
                · exfalso
                  exact HX.out.2.2 (oz + i - ox) (by omega) ⟨hb, by omega, by omega⟩
            · exact Or.inl hb) hdw.out ⟨by omega, by omega⟩)
        have hz1 : oz + i < oz + (m + n) := by omega
        clear hd0
        go_wp2_with fail
        have s1 : IntKind.i64.wrap ((m : Int) + (i : Int)) = (m : Int) + i := IntWalk.i64_in _ (by omega)
        have s2 : IntKind.i64.wrap ((i : Int) + (m : Int)) = (i : Int) + m := IntWalk.i64_in _ (by omega)
        have t1 : ((m : Int) + (i : Int)).toNat = m + i := by omega
        have t2 : ((i : Int) + (m : Int)).toNat = i + m := by omega
        have hci : ¬ cz = i := by omega
        have hci2 : 0 ≤ (i : Int) + (m : Int) ∧ (i : Int) + (m : Int) ≤ (cz : Int) := by omega
        have hmi : m + i < m + n := by omega
        go_region_with (go_at_call 216; refine HC.out.mono ?_; rintro e w' ⟨c, rfl, Z1, q⟩; have HQ := Lib.hid q; clear q; have hst : w'.cell? ⟨bz, oz + (m + i), none⟩ = some (.int .u64 (Z (m + i))) := HQ.out.1.cell (H.out.2.1 (m + i) (by omega)) (by rintro ⟨_, _, h3⟩; omega); have hfz : w'.frozen? ⟨bz, oz + (m + i), none⟩ = false := by obtain ⟨⟨z0, hz0⟩, hf0⟩ := Hz.out (m + i) (by omega); rw [HQ.out.1.frozen (H.out.2.1 (m + i) (by omega))]; show wr.frozen? _ = false; rw [H.out.1.frozen hz0]; exact hf0)
        all_goals clear s1 s2 t1 t2 hci hci2
        all_goals
          go_wp2
          go_roundw
          case rel =>
            refine ⟨i + 1, upd (splice Z i m Z1) (m + i) c, by go_num, hlt, ?_, ?_, ?_, fun j h1 h2 => ?_, ?_⟩
            · exact (((H.out.1.drew).trans HQ.out.1 (fun b o _ ⟨h1, h2, h3⟩ => ⟨h1, by omega, by omega⟩)).setCell bz (oz + (m + i)) _ (fun _ => ⟨rfl, by omega, by omega⟩))
            · have h1 : Words w' bz oz (m + n) (splice Z i m Z1) := Words.splice (Zn := zRow bz oz (m + n)) (w := wr.drew) H.out.2.1 HQ.out.1 HQ.out.2.1 (by omega)
              exact h1.upd (by omega) c
            · exact fun j hj => by
                by_cases e : j = m + i
                · rw [e, upd_same]; exact HQ.out.2.2.2.1
                · rw [upd_other _ _ e]; exact WF_splice H.out.2.2.1 HQ.out.2.2.1 j hj
            · rw [upd_other _ _ (by omega), splice_out (by omega)]; exact H.out.2.2.2.1 j (by omega) h2
            · exact basic_step H.out.2.2.2.2 Hd.out HQ.out.2.2.2.2
          case measure => simp [intOf]; omega
    · have hkn : Hid (i = n) := by unfold Hid; omega
      go_wp2_with fail
      go_end0
      have e := hkn.out
      subst e
      exact ⟨⟨_, rfl⟩, Z, H.out.1, H.out.2.1, H.out.2.2.1, H.out.2.2.2.2⟩
end Go.Proofs.YtmgfajamanakcaaGreatDoor
