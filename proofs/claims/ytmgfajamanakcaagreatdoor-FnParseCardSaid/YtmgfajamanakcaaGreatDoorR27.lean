/- Part of the proof of FnParse: what the functions that it reaches do, as contracts. Conditions: those that each theorem names. -/
import Derived.Test.YtmgfajamanakcaaGreatDoorR26
import Derived.Deep.LoopGhost
import Derived.Test.YtmgfajamanakcaaGreatDoorR13
import Derived.Test.YtmgfajamanakcaaGreatDoorR52
import Derived.Shelf.Spec.TrailingZeros
import Derived.Outline
import Derived.Test.YtmgfajamanakcaaGreatDoorRows
import Derived.WalkKit
import Derived.ProofKit
import Derived.OpenVars
import Derived.LaidMore
import Derived.Stop.Joined
namespace Go.Proofs.YtmgfajamanakcaaGreatDoor
set_option linter.unusedVariables false
set_option linter.unusedSimpArgs false
open Go.RowKit
set_option maxRecDepth 100000
def DeB (w : World) : Prop := ∀ j : Nat, j < 64 → w.cell? ⟨11, j, none⟩ = some (.int .u8 ((Lib.deBruijn64tab.getD j 0 : Nat) : Int))
set_option maxHeartbeats 1000000 in
theorem tz64_core (x k idx : Nat) (w : World) (hx0 : ((x : Int) == 0) = false)
    (key : IntKind.u64.wrap (bits BinOp.and IntKind.u64 (x : Int) (IntKind.u64.wrap (-(x : Int))) * 285870213051353865) / 288230376151711744 = (idx : Int))
    (hi : idx < 64) (hk : k < 64) (hcell : w.cell? ⟨11, idx, none⟩ = some (.int .u8 (k : Int))) :
    Calls Tryz.prog 237 #[.int .u64 (x : Int)] w fun e w' => e = .returned (.int .i64 (k : Int)) ∧ w = w' := by
  go_enter Tryz.func237, Tryz.ntmps237
  go_wp2_with (simp only [key])
  go_ret
  exact ⟨rfl, rfl⟩
theorem tz64_any (x : Nat) (w : World) (hx : x < 18446744073709551616) (h0 : x ≠ 0) (hT : DeB w) :
    Calls Tryz.prog 237 #[.int .u64 (x : Int)] w fun e w' => e = .returned (.int .i64 ((Lib.ctz 64 x : Nat) : Int)) ∧ w = w' := by
  obtain ⟨hlow, hk⟩ := Lib.lowest_bit 64 x h0 hx
  obtain ⟨hi, htab⟩ := Lib.deBruijn64_at _ hk
  have hcell := hT _ hi
  rw [htab] at hcell
  exact tz64_core x _ _ w (by simp; omega) (tz64_key x _ hx h0 hlow) hi hk hcell
set_option maxHeartbeats 1000000 in
theorem tz_any (x : Int) (w : World) (hx : U64 x) (h0 : x ≠ 0) (hT : DeB w) :
    Calls Tryz.prog 201 #[.int .u64 x] w fun e w' => e = .returned (.int .i64 ((Lib.ctz 64 x.toNat : Nat) : Int)) ∧ w = w' := by
  obtain ⟨k, rfl⟩ : ∃ k : Nat, x = (k : Int) := ⟨x.toNat, by have := hx.1; omega⟩
  have H := Lib.hid (tz64_any k w (by have := hx.2; omega) (by omega) hT)
  have hk : (k : Int).toNat = k := rfl
  have w1 : IntKind.u64.wrap (k : Int) = (k : Int) := IntWalk.u64_in _ ⟨by omega, by have := hx.2; omega⟩
  rw [hk]
  clear hx h0 hT hk
  go_enter Tryz.func201, Tryz.ntmps201
  go_wp2_with fail
  refine H.out.mono ?_
  rintro e w1 ⟨rfl, rfl⟩
  go_wp2
  go_ret
  exact ⟨rfl, rfl⟩
set_option maxHeartbeats 2000000 in
theorem tzb_any (b o n c : Nat) (X : Nat → Int) (w : World) (hX : Words w b o n X) (hXw : WF X n) (hn : 0 < n) (hn2 : n < 65536) (ht : X (n - 1) ≠ 0) (hT : DeB w) (hnc : n ≤ c) :
    Calls Tryz.prog 177 #[.slice (some ⟨b, o, none⟩) n c] w fun e w' => ∃ t : Nat, e = .returned (.int .u64 (t : Int)) ∧ LowZ (val X n) t ∧ t < 64 * n ∧ w = w' := by
  have d0 : ((n : Int) == 0) = false := by simp; omega
  have H := Lib.hid (And.intro hX (And.intro hXw (And.intro ht hT)))
  clear hX hXw ht hT
  go_enter Tryz.func177, Tryz.ntmps177
  go_wp2_with fail
  go_loopw [3] (fun s3 wr => ∃ i : Nat, s3 = .int .u64 (i : Int) ∧ w = wr ∧ i < n ∧ Hid (∀ j, j < i → X j = 0)) (fun s3 _ => n - (intOf s3).toNat)
  case atStart => exact ⟨0, rfl, rfl, hn, fun j hj => by omega⟩
  case round =>
    obtain ⟨i, rfl, rfl, hi, HZ⟩ := hrel
    have hci := H.out.1 i hi
    obtain ⟨y, hy⟩ : ∃ y, X i = y := ⟨_, rfl⟩
    rw [hy] at hci
    have Hy := Lib.hid hy
    have f1 : (0 : Int) ≤ (i : Int) := by omega
    have f2 : (i : Int) < (n : Int) := by omega
    clear hy
    by_cases hy0 : y = 0
    · have d1 : (y == 0) = true := by simp [hy0]
      have hin : i + 1 < n := by
        rcases Nat.lt_or_ge (i + 1) n with h | h
        · exact h
        · exfalso
          have e : n - 1 = i := by omega
          have := H.out.2.2.1
          rw [e, Hy.out] at this
          exact this hy0
      have HZ2 : Hid (∀ j, j < i + 1 → X j = 0) := fun j hj => by
        rcases Nat.lt_or_ge j i with h | h
        · exact HZ.out j h
        · obtain rfl : j = i := by omega
          rw [Hy.out]; exact hy0
      clear hy0
      go_wp2
      go_roundw
      case measure => simp only [intOf]; omega
      case rel => exact ⟨i + 1, by go_num, by first | rfl | trivial, hin, HZ2.out⟩
    · have d1 : (y == 0) = false := by simp [hy0]
      have hyw : U64 y := by have := H.out.2.1 i hi; rw [Hy.out] at this; exact this
      have HC := Lib.hid (tz_any y w hyw hy0 H.out.2.2.2)
      have hL := ctz_low hyw hy0
      obtain ⟨t, ht⟩ : ∃ t, Lib.ctz 64 y.toNat = t := ⟨_, rfl⟩
      rw [ht] at hL HC
      have ht64 := hL.2
      have HL : Hid (LowZ (val X n) (64 * i + t)) := low_val H.out.2.1 hi HZ.out (by rw [Hy.out]; exact hL.1) hL.2
      clear hL ht hy0 hyw
      go_wp2_with fail
      refine HC.out.mono ?_
      rintro e w1 ⟨rfl, rfl⟩
      go_wp2
      go_ret
      have he : ((64 * i + t : Nat) : Int) = (i : Int) * 64 + (t : Int) := by omega
      exact ⟨64 * i + t, by rw [he]; rfl, HL.out, by omega, rfl⟩
end Go.Proofs.YtmgfajamanakcaaGreatDoor
namespace Go.Proofs.YtmgfajamanakcaaGreatDoor
set_option linter.unusedVariables false
set_option linter.unusedSimpArgs false
open Go
set_option maxRecDepth 100000
theorem Rounded.range {neg : Bool} {N D md m t acc : Int} {p : Nat} (h : Rounded neg N D p md m t acc) : 2 ^ (p - 1) ≤ m ∧ m ≤ 2 ^ p ∧ -1 ≤ acc ∧ acc ≤ 1 := by
  obtain ⟨q, l, ⟨a, b, _, _, h3, h4⟩, h5, h6⟩ := h
  refine ⟨?_, ?_, ?_⟩
  · rw [h5]; split <;> omega
  · rw [h5]; split <;> omega
  · rw [h6]
    unfold accS
    split
    · omega
    · split <;> omega
theorem FVal.fit {v : FV} {Y : Nat → Int} {neg : Bool} {N D E md : Int} {P : Nat} (h : FVal v Y neg N D E P md) (hP : 1 ≤ P) (hn : 1 ≤ v.n) (y1 : 2 ^ (64 * v.n - 1) ≤ val Y v.n) (y2 : val Y v.n < 2 ^ (64 * v.n)) : val Y v.n % 2 ^ (64 * v.n - P) = 0 ∧ -1 ≤ v.ac ∧ v.ac ≤ 1 := by
  obtain ⟨_, m, t, hR, hD⟩ := h
  obtain ⟨r1, r2, r3⟩ := hR.range
  refine ⟨?_, r3⟩
  generalize val Y v.n = A at *
  generalize 64 * (v.n : Int) = V at *
  by_cases hle : 64 * v.n ≤ P
  · rw [show 64 * v.n - P = 0 by omega, Int.pow_zero]; exact Int.emod_one _
  · by_cases hm : m < 2 ^ P
    · have hd := dy_top (by omega) hP y1 y2 r1 hm hD
      obtain ⟨a, b, e1, e2⟩ := hD
      have hb : b = (64 * v.n - P) + a := by omega
      rw [hb, Int.pow_add, ← Int.mul_assoc] at e2
      have ha : (0 : Int) < 2 ^ a := Int.pow_pos (by decide)
      have e3 := Int.eq_of_mul_eq_mul_right (by omega) e2
      rw [e3]
      exact Int.mul_emod_left _ _
    · have hm2 : m = 2 ^ P := by omega
      have q2 : m < 2 ^ (P + 1) := by
        rw [hm2, Int.pow_succ]
        have : (0 : Int) < 2 ^ P := Int.pow_pos (by decide)
        omega
      have hd := dy_top (y := P + 1) (by omega) (by omega) y1 y2 (by rw [hm2]; exact Int.le_refl _) q2 hD
      obtain ⟨a, b, e1, e2⟩ := hD
      have hb : b = (64 * v.n - P - 1) + a := by omega
      rw [hb, Int.pow_add, ← Int.mul_assoc] at e2
      have ha : (0 : Int) < 2 ^ a := Int.pow_pos (by decide)
      have e3 := Int.eq_of_mul_eq_mul_right (by omega) e2
      rw [e3, hm2, ← Int.pow_add, show P + (64 * v.n - P - 1) = P - 1 + (64 * v.n - P) by omega, Int.pow_add]
      exact Int.mul_emod_left _ _
end Go.Proofs.YtmgfajamanakcaaGreatDoor
namespace Go.Proofs.YtmgfajamanakcaaGreatDoor
set_option linter.unusedVariables false
set_option linter.unusedSimpArgs false
open Go.ChangeShapes Go.WideShapes Go.ChangeAt Go.RowKit

theorem own : ownKnob Tryz.prog.godebug = none := by kernel_rfl
theorem laidOut : laidOutB Tryz.prog = true := by kernel_rfl

def typesRowed (P : Program) (ts : List TypeId) : Bool := ts.all fun t => P.readableRec t && decide (t < P.types.size)

theorem below_trodAll {H : Type} {enc : TypeId × Value → H} {P : Program} (hl : laidOutB P = true) {W W' : World} (hb : Below W.heap.size W W') :
    ∀ {ts : List TypeId} {vs : List Value} {ds : List (DataW H)} {ps : List MemPlace}, typesRowed P ts = true → DataW.TrodAll enc P W 0 (fun _ => true) true ts vs ds ps → (∀ x ∈ ps, x.block < W.heap.size) →
      DataW.TrodAll enc P W' 0 (fun b => decide (b < W.heap.size)) true ts vs ds ps
  | [], [], [], _, _, h, _ => h
  | [], [], _ :: _, _, _, h, _ => h.elim
  | [], _ :: _, _, _, _, h, _ => h.elim
  | _ :: _, [], _, _, _, h, _ => h.elim
  | _ :: _, _ :: _, [], _, _, h, _ => h.elim
  | t :: ts, v :: vs, d :: ds, ps, ht, h, hlt => by
    obtain ⟨p, q, h1, h2, rfl⟩ := h
    simp only [typesRowed, List.all_cons, Bool.and_eq_true] at ht
    refine ⟨p, q, Below.trod hl ht.1.1 (of_decide_eq_true ht.1.2) h1 hb (fun x hx => hlt x (by simp [hx])), ?_, rfl⟩
    exact below_trodAll hl hb (by simpa [typesRowed] using ht.2) h2 (fun x hx => hlt x (by simp [hx]))

theorem post_law {H : Type} {enc : TypeId × Value → H} {f : Func} {s : ChangeSpec} {W W' : World} {args : Array Value} {ds gs : List (DataW H)} {before : List MemPlace}
    (hW : DataW.Whole enc Tryz.prog f.params.toList s.vars false W args.toList ds gs before) (hb : Below W.heap.size W W')
    (hfn : s.fn H (ds ++ gs) = { results := [.lit (.bool true)], args := ds, vars := gs }) (hr : f.resultTypes = #[4])
    (hp : typesRowed Tryz.prog f.params.toList = true) (hv : varsRowed Tryz.prog s.vars = true) :
    s.post enc Tryz.prog f false true false false W args (.bool true) W' := by
  have hlt := hW.lt
  have hW' := hW
  obtain ⟨p, q, hA, hV, rfl, _, _⟩ := hW
  refine ⟨ds, gs, _, [], p, q, hW', ?_, ?_, ?_, Below.frame hb _, fun h => by cases h⟩
  · rw [hfn, hr]; exact trodAll_mk1 (shut_bool Tryz.underlying4 _)
  · rw [hfn]; exact below_trodAll laidOut hb hp hA (fun x hx => hlt x (by simp [hx]))
  · rw [hfn]; exact Below.trodVars laidOut hb hv hV

theorem trodVars_length {H : Type} {enc : TypeId × Value → H} {P : Program} {w : World} {sp : Nat → Bool} :
    ∀ {ns : List String} {gs : List (DataW H)} {ps : List MemPlace}, DataW.TrodVars enc P w sp ns gs ps → gs.length = ns.length
  | [], [], _, _ => rfl
  | [], _ :: _, _, h => h.elim
  | _ :: _, [], _, h => h.elim
  | _ :: _, _ :: _, _, h => by
    obtain ⟨_, _, _, _, _, _, _, _, _, _, h, _⟩ := h
    simp [trodVars_length h]
theorem list_four {α : Type} {l : List α} (h : l.length = 4) : ∃ a b c d, l = [a, b, c, d] := by
  match l, h with
  | [a, b, c, d], _ => exact ⟨a, b, c, d, rfl⟩
theorem list_five {α : Type} {l : List α} (h : l.length = 5) : ∃ a b c d e, l = [a, b, c, d, e] := by
  match l, h with
  | [a, b, c, d, e], _ => exact ⟨a, b, c, d, e, rfl⟩
theorem list_six {α : Type} {l : List α} (h : l.length = 6) : ∃ a b c d e f, l = [a, b, c, d, e, f] := by
  match l, h with
  | [a, b, c, d, e, f], _ => exact ⟨a, b, c, d, e, f, rfl⟩
theorem list_seven {α : Type} {l : List α} (h : l.length = 7) : ∃ a b c d e f g, l = [a, b, c, d, e, f, g] := by
  match l, h with
  | [a, b, c, d, e, f, g], _ => exact ⟨a, b, c, d, e, f, g, rfl⟩
end Go.Proofs.YtmgfajamanakcaaGreatDoor
