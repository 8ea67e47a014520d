/-
  FnRatParseFails is proved, as the tied card: for every input the law returns true and its arguments read as before. Conditions: those of the card alone.
-/
import Derived.Test.YtmgfajamanakcaaGreatDoorLaw
import Derived.Test.YtmgfajamanakcaaGreatDoorRx
import Derived.Test.YtmgfajamanakcaaGreatDoorRfFacts
import Derived.Test.YtmgfajamanakcaaGreatDoorTie
import Derived.Test.YtmgfajamanakcaaGreatDoorCards
import Derived.SevenTiedAt
import Derived.OpenShut
import Derived.LaidLaws
import Derived.MakeChecks
import Derived.ChangeMaps5
namespace Go.Proofs.YtmgfajamanakcaaGreatDoor
open Go.ChangeShapes Go.WideShapes Go.ChangeAt Go.RowKit
set_option maxRecDepth 100000
set_option linter.unusedVariables false
theorem rf_door (os : Os) (args : Array Value) : laidMetH Tryz.prog Rows.fnRatParseFailsRow.laid ((World.doorLaid Tryz.prog 400 os).forCall (fun _ _ => 0) ⟨#[], args, []⟩).memory :=
  laidMetH_of_parts3 (fuel := 8) (laidMet_of_run' 8 (by kernel_rfl) (by kernel_rfl)) (by kernel_rfl) (by kernel_rfl)
/-- One listed variable, out of the list. -/
theorem laid_at {P : Program} {w : World} {n : String} {d : DataW Unit} : ∀ {l : List (String × DataW Unit)} {ps : List MemPlace}, DataW.LaidVars P w l ps → (n, d) ∈ l →
    ∃ g t cs fuel p, P.globalNamed n = some g ∧ (P.globals[g]?).map (·.type) = some t ∧ w.var? P n = some cs ∧ DataW.trod (fun _ => ()) P w 0 (fun _ => true) false fuel t cs.toList = some (d, p) ∧ ∀ x ∈ MemPlace.row ⟨g, 0, none⟩ cs.size, x ∈ ps
  | [], _, _, h => by cases h
  | (n', d') :: r, ps, h, hm => by
    obtain ⟨g, t, cs, fuel, p, q, h1, h2, h3, h4, h5, rfl⟩ := h
    rcases List.mem_cons.1 hm with e | e
    · injection e with e1 e2
      subst e1; subst e2
      exact ⟨g, t, cs, fuel, p, h1, h2, h3, h4, fun x hx => by simp [hx]⟩
    · obtain ⟨g', t', cs', fuel', p', k1, k2, k3, k4, k5⟩ := laid_at h5 e
      exact ⟨g', t', cs', fuel', p', k1, k2, k3, k4, fun x hx => by simp [k5 x hx]⟩
theorem star_err : "*" ++ "errors.errorString" = "*errors.errorString" := by decide
theorem row229 (u : TypeId) (h : Tryz.prog.typeName? 3 u = some "*errors.errorString") : u = 229 :=
  typeName_ptr_named (nm := "errors.errorString") (by rw [star_err]; kernel_rfl) (by kernel_rfl) (by decide) u (by rw [star_err]; exact h)
theorem cells231 : Tryz.prog.cellsOf 231 = 1 := by kernel_rfl
theorem cells9 : Tryz.prog.cellsOf 9 = 1 := by kernel_rfl
/-- A listed error: its cell. -/
theorem err_at {w : World} {l : List (String × DataW Unit)} (h : laidMet Tryz.prog l w) {n : String} {g : Nat} {text : List UInt8} (hm : (n, DataW.iface "*errors.errorString" (.ptr (.agg [.lit (.string text)]))) ∈ l) (hg : Tryz.prog.globalNamed n = some g) (ht : (Tryz.prog.globals[g]?).map (·.type) = some 110) :
    ∃ a, w.cell? ⟨g, 0, none⟩ = some (.iface 229 (.pointer (some a))) := by
  obtain ⟨ps, hl, hnd, hrows⟩ := h
  obtain ⟨g', t, cs, fuel, p, k1, k2, k3, k4, k5⟩ := laid_at hl hm
  obtain rfl := Option.some.inj (hg.symm.trans k1)
  obtain rfl := Option.some.inj (ht.symm.trans k2)
  obtain ⟨l0⟩ := cs
  have ok0 : ∀ u v, l0 = [.iface u v] → Value.okWide Tryz.prog w .any 0 u v := fun u v e => by
    subst e
    exact (hrows g 0 (k5 _ (by simp [MemPlace.row]))).2 u v (by simpa using World.var?_cell k1 k3 0)
  obtain ⟨a, s, rfl, _, _, _, _⟩ := errorString_of_trod Tryz.underlying110 row229 Tryz.underlying229 Tryz.underlying231 rfl rfl Tryz.underlying9 cells231 cells9 k4 ok0
  exact ⟨a, by simpa using World.var?_cell k1 k3 0⟩
theorem rf_globals {w : World} (h : laidMetH Tryz.prog Rows.fnRatParseFailsRow.laid w) :
    (∃ aE a1 a2, Errs w (.iface 229 (.pointer (some aE))) (.iface 229 (.pointer (some a1))) (.iface 229 (.pointer (some a2)))) ∧ PErrs w ∧ 14 ≤ w.heap.size := by
  rw [MakeChecks.laidMetH_plain _ _ _ (by kernel_rfl)] at h
  obtain ⟨aE, hE⟩ := err_at h (n := "io.EOF") (g := 0) (text := [69, 79, 70]) (by unfold Rows.fnRatParseFailsRow Rows.laid_io_EOF; simp) (by kernel_rfl) (by kernel_rfl)
  obtain ⟨a1, h1⟩ := err_at h (n := "loop.example/pub-g03235/pub/bigall.errInvalSep") (g := 2) (text := [39, 95, 39, 32, 109, 117, 115, 116, 32, 115, 101, 112, 97, 114, 97, 116, 101, 32, 115, 117, 99, 99, 101, 115, 115, 105, 118, 101, 32, 100, 105, 103, 105, 116, 115]) (by unfold Rows.fnRatParseFailsRow Rows.laid_loop_example_pub_g03235_pub_bigall_errInvalSep; simp) (by kernel_rfl) (by kernel_rfl)
  obtain ⟨a2, h2⟩ := err_at h (n := "loop.example/pub-g03235/pub/bigall.errNoDigits") (g := 3) (text := [110, 117, 109, 98, 101, 114, 32, 104, 97, 115, 32, 110, 111, 32, 100, 105, 103, 105, 116, 115]) (by unfold Rows.fnRatParseFailsRow Rows.laid_loop_example_pub_g03235_pub_bigall_errNoDigits; simp) (by kernel_rfl) (by kernel_rfl)
  obtain ⟨a3, h3⟩ := err_at h (n := "strconv.ErrSyntax") (g := 12) (text := [105, 110, 118, 97, 108, 105, 100, 32, 115, 121, 110, 116, 97, 120]) (by unfold Rows.fnRatParseFailsRow Rows.laid_strconv_ErrSyntax; simp) (by kernel_rfl) (by kernel_rfl)
  obtain ⟨a4, h4⟩ := err_at h (n := "strconv.ErrRange") (g := 13) (text := [118, 97, 108, 117, 101, 32, 111, 117, 116, 32, 111, 102, 32, 114, 97, 110, 103, 101]) (by unfold Rows.fnRatParseFailsRow Rows.laid_strconv_ErrRange; simp) (by kernel_rfl) (by kernel_rfl)
  exact ⟨⟨aE, a1, a2, hE, h1, h2⟩, ⟨⟨_, h3, Or.inr ⟨_, _, rfl⟩⟩, ⟨_, h4, Or.inr ⟨_, _, rfl⟩⟩⟩, lt_of_cell h4⟩
theorem rf_lifted (os : Os) (started : os.Started) (H : Type) (enc : TypeId × Value → H) :
    ReturnsInHanded {} Tryz.checked os 10 .any (fun w args => (Rows.fnRatParseFailsSpec.pre enc Tryz.prog Tryz.f10 [] false w args ∧ laidMetH Tryz.prog Rows.fnRatParseFailsRow.laid w) ∧ sizedMet enc Tryz.prog Tryz.f10 (OpenSpec.ofChange Rows.fnRatParseFailsSpec) false w args)
      (Rows.fnRatParseFailsSpec.post enc Tryz.prog Tryz.f10 false true false false) := by
  refine returnsInHanded_of_change_and (C := Tryz.checked) (X := fun w _ => laidMetH Tryz.prog Rows.fnRatParseFailsRow.laid w) (fun _ _ _ hh h => h.of_heap hh) own started (by kernel_rfl) Tryz.func10
    (ChangeSpec.witness_shaped (enc := enc) (C := Tryz.checked) (os := os) (X := fun w _ => laidMetH Tryz.prog Rows.fnRatParseFailsRow.laid w) false (World.doorLaid Tryz.prog 400 os) #[.string ⟨#[]⟩] 8 rfl (World.shaped_of_RefB (by kernel_rfl) (by kernel_rfl)) (by kernel_rfl) (by kernel_rfl) (by kernel_rfl) (rf_door os _)) ?_
  intro W base args ds gs before hval0 hW _ _ hL _
  have hval : ∀ (j : Nat) t v, Tryz.f10.params[j]? = some t → args[j]? = some v → Value.okWide Tryz.prog W .any base t v := hval0
  have hW' := hW
  obtain ⟨p, q, hA0, hV, rfl, hfz, hnd⟩ := hW
  have hA : DataW.TrodAll enc Tryz.prog W 0 (fun _ => true) true Tryz.f10.params.toList args.toList ds p := hA0
  rw [Tryz.params10] at hA hval
  obtain ⟨v0, vs0, d0, ds0, p0, q0, hargs, rfl, rfl, h0, r0⟩ := trodAll_cons hA
  obtain ⟨rfl, rfl, rfl⟩ := trodAll_nil r0
  obtain rfl : args = #[v0] := by cases args; simp_all
  obtain ⟨s, rfl, rfl, rfl, hs⟩ := Go.ChangeMaps.open_string Tryz.underlying9 (hval 0 9 v0 rfl rfl) h0
  obtain ⟨⟨aE, a1, a2, hE⟩, hP, hsz⟩ := rf_globals hL
  refine (law10 s aE a1 a2 W hsz hE hP).mono fun e W' ⟨he, hk⟩ => ?_
  subst he
  refine ⟨_, rfl, post_law hW' (hk.below (Nat.le_refl _) (fun _ _ _ h => h)) ?_ rfl (by kernel_rfl) (by kernel_rfl)⟩
  obtain ⟨g1, g2, g3, g4, g5, g6, rfl⟩ := list_six (trodVars_length hV)
  rfl
theorem rf_holds : Rows.FnRatParseFailsSaid :=
  OpenClaim.holds_of_wide 10 Tryz.f10 rfl rfl rfl rfl rfl rfl rfl ⟨rfl, rfl, rfl, rfl, rfl⟩ rfl rfl rfl rfl rfl fnRatParseFails_named Tryz.func10 fnRatParseFails_closed
    fnRatParseFails_inst fnRatParseFails_wrap (fun os started H enc _ => rf_lifted os started H enc)
theorem rf_stand : ([9].all fun u => !Tryz.prog.wantsStandIn u) = true := by kernel_rfl
theorem rf_card : Rows.FnRatParseFailsCardSaid :=
  Claim7.holds_tied_plain_at .later [] [.data, .data, .data, .sentinel, .sentinel, .sentinel, .sentinel, .sentinel, .data, .data, .data, .data] true (true, "afd8faaed94fe7cf717e9c1444daa084e5465dd580c5b40265b1581e65e19822") true
    rf_holds (fun _ h => by cases h) fnRatParseFails_text (fun _ h => by cases h) fnRatParseFails_row_tie rfl ⟨rfl, rfl⟩ fnRatParseFails_main rfl
    (fun f fn hf hfn => by
      obtain rfl : f = 10 := Option.some.inj (fnRatParseFails_named.symm.trans hf) |>.symm
      obtain rfl : fn = Tryz.f10 := (Option.some.inj (Tryz.func10.symm.trans hfn)).symm
      exact ⟨fnRatParseFails_looks, fun j t ht => by
        rw [Tryz.params10] at ht
        have hm : t ∈ [9] := by simpa using Array.mem_of_getElem? ht
        exact (show Tryz.prog.wantsStandIn t = false by simpa using List.all_eq_true.1 rf_stand t hm)⟩)
    fnRatParseFails_goes
#print axioms rf_card
end Go.Proofs.YtmgfajamanakcaaGreatDoor
