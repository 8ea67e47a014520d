/- Part of the proof of FnParse: what the functions that it reaches do, as contracts. Conditions: those that each theorem names. -/
import Derived.Test.YtmgfajamanakcaaGreatDoorR50
import Derived.Test.YtmgfajamanakcaaGreatDoorR48
import Derived.Test.YtmgfajamanakcaaGreatDoorR28
import Derived.Test.YtmgfajamanakcaaGreatDoorTie
import Derived.Test.YtmgfajamanakcaaGreatDoorCards
import Derived.SevenTiedAt
import Derived.OpenShut
import Derived.LaidLaws
import Derived.MakeChecks
import Derived.ChangeMaps5
namespace Go.Proofs.YtmgfajamanakcaaGreatDoor
set_option linter.unusedVariables false
set_option linter.unusedSimpArgs false
open Go Go.RowKit
set_option maxRecDepth 100000
set_option maxHeartbeats 1000000 in
theorem law6 (s : ByteArray) (b q m : Int) (aE a1 a2 : Addr) (w : World) (hb : 0 ≤ b) (hb2 : b < 256) (hq : 0 ≤ q) (hq2 : q < 256) (hm : 0 ≤ m) (hm2 : m < 256) (hE : FEnv w aE a1 a2) :
    Calls Tryz.prog 6 #[.string s, .int .u8 b, .int .u8 q, .int .u8 m] w fun e w' => e = .returned (.bool true) ∧ Chg zNone w w' := by
  by_cases hs : s.size ≤ 40
  · obtain ⟨k, rfl⟩ : ∃ k : Nat, q = (k : Int) := ⟨q.toNat, by omega⟩
    exact law6_40 s b m k aE a1 a2 w hs hb hb2 hm hm2 (by omega) hE
  · clear hE
    by_cases hz : 2147483647 < s.size
    · have h1 : decide ((2147483647 : Int) < (s.size : Int)) = true := by simp; omega
      clear hz hs
      go_enter Tryz.func6, Tryz.ntmps6
      go_wp2
      go_ret
      exact ⟨rfl, Chg.refl _ _⟩
    · have h1 : decide ((2147483647 : Int) < (s.size : Int)) = false := by simp; omega
      have h2 : decide ((40 : Int) < (s.size : Int)) = true := by simp; omega
      clear hz hs
      go_enter Tryz.func6, Tryz.ntmps6
      go_wp2
      go_ret
      exact ⟨rfl, Chg.refl _ _⟩
end Go.Proofs.YtmgfajamanakcaaGreatDoor
namespace Go.Proofs.YtmgfajamanakcaaGreatDoor
set_option linter.unusedVariables false
set_option linter.unusedSimpArgs false
open Go.ChangeShapes Go.WideShapes Go.ChangeAt Go.RowKit
set_option maxRecDepth 100000
theorem chg_low {Z : Zone} {w w' : World} (h : Chg Z w w') {B : Nat} (hB : B ≤ w.heap.size) (hZ : ∀ b o, b < B → ¬ Z b o) : Below B w w' :=
  ⟨h.os, h.tape, h.output, h.size, fun b hb => h.same b (Nat.lt_of_lt_of_le hb hB) (fun o => hZ b o hb)⟩
theorem pr_lifted (os : Os) (started : os.Started) (H : Type) (enc : TypeId × Value → H) :
    ReturnsInHanded {} Tryz.checked os 6 .any (fun w args => (Rows.fnParseSpec.pre enc Tryz.prog Tryz.f6 [] false w args ∧ laidMetH Tryz.prog Rows.fnParseRow.laid w) ∧ sizedMet enc Tryz.prog Tryz.f6 (OpenSpec.ofChange Rows.fnParseSpec) false w args)
      (Rows.fnParseSpec.post enc Tryz.prog Tryz.f6 false true false false) := by
  refine returnsInHanded_of_change_and (C := Tryz.checked) (X := fun w _ => laidMetH Tryz.prog Rows.fnParseRow.laid w) (fun _ _ _ hh h => h.of_heap hh) own started (by kernel_rfl) Tryz.func6
    (ChangeSpec.witness_shaped (enc := enc) (C := Tryz.checked) (os := os) (X := fun w _ => laidMetH Tryz.prog Rows.fnParseRow.laid w) false (World.doorLaid Tryz.prog 400 os) #[.string ⟨#[]⟩, .int .u8 0, .int .u8 0, .int .u8 0] 8 rfl (World.shaped_of_RefB (by kernel_rfl) (by kernel_rfl)) (by kernel_rfl) (by kernel_rfl) (by kernel_rfl) (pf_door os _)) ?_
  intro W base args ds gs before hval0 hW _ _ hL _
  have hval : ∀ (j : Nat) t v, Tryz.f6.params[j]? = some t → args[j]? = some v → Value.okWide Tryz.prog W .any base t v := hval0
  have hW' := hW
  obtain ⟨p, q, hA0, hV, rfl, hfz, hnd⟩ := hW
  have hA : DataW.TrodAll enc Tryz.prog W 0 (fun _ => true) true Tryz.f6.params.toList args.toList ds p := hA0
  rw [Tryz.params6] at hA hval
  obtain ⟨v0, vs0, d0, ds0, p0, q0, hargs, rfl, rfl, h0, r0⟩ := trodAll_cons hA
  obtain ⟨v1, vs1, d1, ds1, p1, q1, rfl, rfl, rfl, h1, r1⟩ := trodAll_cons r0
  obtain ⟨v2, vs2, d2, ds2, p2, q2, rfl, rfl, rfl, h2, r2⟩ := trodAll_cons r1
  obtain ⟨v3, vs3, d3, ds3, p3, q3, rfl, rfl, rfl, h3, r3⟩ := trodAll_cons r2
  obtain ⟨rfl, rfl, rfl⟩ := trodAll_nil r3
  obtain rfl : args = #[v0, v1, v2, v3] := by cases args; simp_all
  obtain ⟨s, rfl, rfl, rfl, hs⟩ := Go.ChangeMaps.open_string Tryz.underlying9 (hval 0 9 v0 rfl rfl) h0
  obtain ⟨b, rfl, rfl, rfl, w1⟩ := open_int Tryz.underlying5 (hval 1 5 v1 rfl rfl) h1
  obtain ⟨q, rfl, rfl, rfl, w2⟩ := open_int Tryz.underlying5 (hval 2 5 v2 rfl rfl) h2
  obtain ⟨m, rfl, rfl, rfl, w3⟩ := open_int Tryz.underlying5 (hval 3 5 v3 rfl rfl) h3
  have e1 := bounds_u8 w1
  have e2 := bounds_u8 w2
  have e3 := bounds_u8 w3
  obtain ⟨aE, a1, a2, hE⟩ := pf_globals hL
  refine (law6 s b q m aE a1 a2 W (by omega) (by omega) (by omega) (by omega) (by omega) (by omega) hE).mono fun e W' ⟨he, hk⟩ => ?_
  subst he
  refine ⟨_, rfl, post_law hW' (chg_low hk (Nat.le_refl _) (fun _ _ _ h => h)) ?_ rfl (by kernel_rfl) (by kernel_rfl)⟩
  obtain ⟨g1, g2, g3, g4, g5, g6, g7, rfl⟩ := list_seven (trodVars_length hV)
  rfl
theorem pr_holds : Rows.FnParseSaid :=
  OpenClaim.holds_of_wide 6 Tryz.f6 rfl rfl rfl rfl rfl rfl rfl ⟨rfl, rfl, rfl, rfl, rfl⟩ rfl rfl rfl rfl rfl fnParse_named Tryz.func6 fnParse_closed
    fnParse_inst fnParse_wrap (fun os started H enc _ => pr_lifted os started H enc)
theorem pr_stand : ([9, 5, 5, 5].all fun u => !Tryz.prog.wantsStandIn u) = true := by kernel_rfl
theorem pr_card : Rows.FnParseCardSaid :=
  Claim7.holds_tied_plain_at .later [] [.data, .data, .data, .sentinel, .sentinel, .sentinel, .data, .sentinel, .sentinel, .data, .data, .data, .data] true (true, "afd8faaed94fe7cf717e9c1444daa084e5465dd580c5b40265b1581e65e19822") true
    pr_holds (fun _ h => by cases h) fnParse_text (fun _ h => by cases h) fnParse_row_tie rfl ⟨rfl, rfl⟩ fnParse_main rfl
    (fun f fn hf hfn => by
      obtain rfl : f = 6 := Option.some.inj (fnParse_named.symm.trans hf) |>.symm
      obtain rfl : fn = Tryz.f6 := (Option.some.inj (Tryz.func6.symm.trans hfn)).symm
      exact ⟨fnParse_looks, fun j t ht => by
        rw [Tryz.params6] at ht
        have hm : t ∈ [9, 5, 5, 5] := by simpa using Array.mem_of_getElem? ht
        exact (show Tryz.prog.wantsStandIn t = false by simpa using List.all_eq_true.1 pr_stand t hm)⟩)
    fnParse_goes
#print axioms pr_card
end Go.Proofs.YtmgfajamanakcaaGreatDoor
