/-
  What the program's variables hold, out of the row's laid list of FnParseFails. Conditions: the list is met.
  A scanned number has a figure. Plain Lean; no walk in sight.
-/
import Derived.Test.YtmgfajamanakcaaGreatDoorQ38
import Derived.Test.YtmgfajamanakcaaGreatDoorQ46
import Derived.Test.YtmgfajamanakcaaGreatDoorTie
import Derived.Test.YtmgfajamanakcaaGreatDoorCards
import Derived.SevenTiedAt
import Derived.OpenShut
import Derived.LaidLaws
import Derived.MakeChecks
import Derived.ChangeMaps5
import Derived.Test.YtmgfajamanakcaaGreatDoorQ04
namespace Go.Proofs.YtmgfajamanakcaaGreatDoor
set_option linter.unusedSimpArgs false
open Go.ChangeShapes Go.WideShapes Go.ChangeAt Go.RowKit
set_option maxRecDepth 100000
set_option linter.unusedVariables false
theorem pf_door (os : Os) (args : Array Value) : laidMetH Tryz.prog Rows.fnParseFailsRow.laid ((World.doorLaid Tryz.prog 400 os).forCall (fun _ _ => 0) ⟨#[], args, []⟩).memory :=
  laidMetH_of_parts3 (fuel := 8) (laidMet_of_run' 8 (by kernel_rfl) (by kernel_rfl)) (by kernel_rfl) (by kernel_rfl)
/-- One listed variable, out of the list. -/
theorem laid_at {P : Program} {w : World} {n : String} {d : DataW Unit} : ∀ {l : List (String × DataW Unit)} {ps : List MemPlace}, DataW.LaidVars P w l ps → (n, d) ∈ l →
    ∃ g t cs fuel p, P.globalNamed n = some g ∧ (P.globals[g]?).map (·.type) = some t ∧ w.var? P n = some cs ∧ DataW.trod (fun _ => ()) P w 0 (fun _ => true) false fuel t cs.toList = some (d, p) ∧ ∀ x ∈ MemPlace.row ⟨g, 0, none⟩ cs.size, x ∈ ps
  | [], _, _, h => by cases h
  | (n', d') :: r, ps, h, hm => by
    obtain ⟨g, t, cs, fuel, p, q, h1, h2, h3, h4, h5, rfl⟩ := h
    rcases List.mem_cons.1 hm with e | e
    · injection e with e1 e2
      subst e1; subst e2
      exact ⟨g, t, cs, fuel, p, h1, h2, h3, h4, fun x hx => by simp [hx]⟩
    · obtain ⟨g', t', cs', fuel', p', k1, k2, k3, k4, k5⟩ := laid_at h5 e
      exact ⟨g', t', cs', fuel', p', k1, k2, k3, k4, fun x hx => by simp [k5 x hx]⟩
theorem star_err : "*" ++ "errors.errorString" = "*errors.errorString" := by decide
theorem row229 (u : TypeId) (h : Tryz.prog.typeName? 3 u = some "*errors.errorString") : u = 229 :=
  typeName_ptr_named (nm := "errors.errorString") (by rw [star_err]; kernel_rfl) (by kernel_rfl) (by decide) u (by rw [star_err]; exact h)
theorem cells231 : Tryz.prog.cellsOf 231 = 1 := by kernel_rfl
theorem cells9 : Tryz.prog.cellsOf 9 = 1 := by kernel_rfl
/-- A listed error: its cell. -/
theorem err_at {w : World} {l : List (String × DataW Unit)} (h : laidMet Tryz.prog l w) {n : String} {g : Nat} {text : List UInt8} (hm : (n, DataW.iface "*errors.errorString" (.ptr (.agg [.lit (.string text)]))) ∈ l) (hg : Tryz.prog.globalNamed n = some g) (ht : (Tryz.prog.globals[g]?).map (·.type) = some 110) :
    ∃ a, w.cell? ⟨g, 0, none⟩ = some (.iface 229 (.pointer (some a))) := by
  obtain ⟨ps, hl, hnd, hrows⟩ := h
  obtain ⟨g', t, cs, fuel, p, k1, k2, k3, k4, k5⟩ := laid_at hl hm
  obtain rfl := Option.some.inj (hg.symm.trans k1)
  obtain rfl := Option.some.inj (ht.symm.trans k2)
  obtain ⟨l0⟩ := cs
  have ok0 : ∀ u v, l0 = [.iface u v] → Value.okWide Tryz.prog w .any 0 u v := fun u v e => by
    subst e
    exact (hrows g 0 (k5 _ (by simp [MemPlace.row]))).2 u v (by simpa using World.var?_cell k1 k3 0)
  obtain ⟨a, s, rfl, _, _, _, _⟩ := errorString_of_trod Tryz.underlying110 row229 Tryz.underlying229 Tryz.underlying231 rfl rfl Tryz.underlying9 cells231 cells9 k4 ok0
  exact ⟨a, by simpa using World.var?_cell k1 k3 0⟩
/-- A listed number: its cell. -/
theorem lit_at {w : World} {l : List (String × DataW Unit)} (h : laidMet Tryz.prog l w) {n : String} {g : Nat} {ty : TypeId} {k : IntKind} {x : Int} (hm : (n, DataW.lit (.int k x)) ∈ l) (hg : Tryz.prog.globalNamed n = some g) (ht : (Tryz.prog.globals[g]?).map (·.type) = some ty) (hu : Tryz.prog.underlying ty = some (.int k)) :
    w.cell? ⟨g, 0, none⟩ = some (.int k x) := by
  obtain ⟨ps, hl, hnd, hrows⟩ := h
  obtain ⟨g', t, cs, fuel, p, k1, k2, k3, k4, k5⟩ := laid_at hl hm
  obtain rfl := Option.some.inj (hg.symm.trans k1)
  obtain rfl := Option.some.inj (ht.symm.trans k2)
  obtain ⟨l0⟩ := cs
  obtain ⟨y, e1, e2, _⟩ := DataW.trod_int hu k4
  injection e2 with e3 _
  injection e3 with e4
  injection e4 with _ e5
  subst e5
  have e6 : l0 = [.int k x] := e1
  subst e6
  simpa using World.var?_cell k1 k3 0
/-- A listed table: its cells. -/
theorem tab_at {w : World} {l : List (String × DataW Unit)} (h : laidMet Tryz.prog l w) {n : String} {g N : Nat} {ty e : TypeId} {k : IntKind} {xs : List Int} (hm : (n, DataW.agg (xs.map fun x => .lit (.int k x))) ∈ l) (hg : Tryz.prog.globalNamed n = some g) (ht : (Tryz.prog.globals[g]?).map (·.type) = some ty)
    (hu : Tryz.prog.underlying ty = some (.array N e)) (hc : Tryz.prog.cellsOf e = 1) (hue : Tryz.prog.underlying e = some (.int k)) : ∀ i x, i < N → xs[i]? = some x → w.cell? ⟨g, i, none⟩ = some (.int k x) := by
  obtain ⟨ps, hl, hnd, hrows⟩ := h
  obtain ⟨g', t, cs, fuel, p, k1, k2, k3, k4, k5⟩ := laid_at hl hm
  obtain rfl := Option.some.inj (hg.symm.trans k1)
  obtain rfl := Option.some.inj (ht.symm.trans k2)
  obtain ⟨l0⟩ := cs
  obtain ⟨ys, m, _, e2, e3, e4, e5⟩ := DataW.trod_array hu k4
  injection e2 with e6 _
  injection e6 with e7
  intro i x hi hx
  have h1 := e5 i hi
  rw [hc, Nat.mul_one] at h1
  have hil : i < ys.length := by omega
  rw [List.getElem?_eq_getElem hil] at h1
  obtain ⟨y, f1, f2, _⟩ := DataW.trod_int hue h1
  have h2 : (ys.map (·.1))[i]? = some (ys[i].1) := by simp [hil]
  rw [← e7] at h2
  rw [List.getElem?_map, hx] at h2
  simp only [Option.map_some] at h2
  have h3 := Option.some.inj h2
  rw [f2] at h3
  injection h3 with h4
  injection h4 with _ h5
  subst h5
  have h6 : l0[i]? = some (.int k x) := by
    have h7 : ((l0.drop i).take 1)[0]? = some (.int k x) := by rw [f1]; rfl
    simpa using h7
  have h8 := World.var?_cell k1 k3 i
  simp only [List.getElem?_toArray] at h8
  rw [h6] at h8
  simpa using h8
def p5list : List Int := [1, 5, 25, 125, 625, 3125, 15625, 78125, 390625, 1953125, 9765625, 48828125, 244140625, 1220703125, 6103515625, 30517578125, 152587890625, 762939453125, 3814697265625, 19073486328125, 95367431640625, 476837158203125, 2384185791015625, 11920928955078125, 59604644775390625, 298023223876953125, 1490116119384765625, 7450580596923828125]
def deblist : List Int := [0, 1, 56, 2, 57, 49, 28, 3, 61, 58, 42, 50, 38, 29, 17, 4, 62, 47, 59, 36, 45, 43, 51, 22, 53, 39, 33, 30, 24, 18, 12, 5, 63, 55, 48, 27, 60, 41, 37, 16, 46, 35, 44, 21, 52, 32, 23, 11, 54, 26, 40, 15, 34, 20, 31, 10, 25, 14, 19, 9, 13, 8, 7, 6]
theorem p5_at : ∀ i : Nat, i < 28 → p5list[i]? = some (5 ^ i) := by decide
theorem deb_at : ∀ i : Nat, i < 64 → deblist[i]? = some ((Lib.deBruijn64tab.getD i 0 : Nat) : Int) := by decide
theorem pf_globals {w : World} (h : laidMetH Tryz.prog Rows.fnParseFailsRow.laid w) : ∃ aE a1 a2, FEnv w aE a1 a2 := by
  rw [MakeChecks.laidMetH_plain _ _ _ (by kernel_rfl)] at h
  obtain ⟨aE, hE⟩ := err_at h (n := "io.EOF") (g := 0) (text := [69, 79, 70]) (by unfold Rows.fnParseFailsRow Rows.laid_io_EOF; simp) (by kernel_rfl) (by kernel_rfl)
  obtain ⟨a1, h1⟩ := err_at h (n := "loop.example/pub-g03235/pub/bigall.errInvalSep") (g := 2) (text := [39, 95, 39, 32, 109, 117, 115, 116, 32, 115, 101, 112, 97, 114, 97, 116, 101, 32, 115, 117, 99, 99, 101, 115, 115, 105, 118, 101, 32, 100, 105, 103, 105, 116, 115]) (by unfold Rows.fnParseFailsRow Rows.laid_loop_example_pub_g03235_pub_bigall_errInvalSep; simp) (by kernel_rfl) (by kernel_rfl)
  obtain ⟨a2, h2⟩ := err_at h (n := "loop.example/pub-g03235/pub/bigall.errNoDigits") (g := 3) (text := [110, 117, 109, 98, 101, 114, 32, 104, 97, 115, 32, 110, 111, 32, 100, 105, 103, 105, 116, 115]) (by unfold Rows.fnParseFailsRow Rows.laid_loop_example_pub_g03235_pub_bigall_errNoDigits; simp) (by kernel_rfl) (by kernel_rfl)
  obtain ⟨a3, h3⟩ := err_at h (n := "strconv.ErrSyntax") (g := 12) (text := [105, 110, 118, 97, 108, 105, 100, 32, 115, 121, 110, 116, 97, 120]) (by unfold Rows.fnParseFailsRow Rows.laid_strconv_ErrSyntax; simp) (by kernel_rfl) (by kernel_rfl)
  obtain ⟨a4, h4⟩ := err_at h (n := "strconv.ErrRange") (g := 13) (text := [118, 97, 108, 117, 101, 32, 111, 117, 116, 32, 111, 102, 32, 114, 97, 110, 103, 101]) (by unfold Rows.fnParseFailsRow Rows.laid_strconv_ErrRange; simp) (by kernel_rfl) (by kernel_rfl)
  have k1 := lit_at h (n := "loop.example/pub-g03235/pub/bigall.karatsubaThreshold") (g := 1) (ty := 3) (k := .i64) (x := 40) (by unfold Rows.fnParseFailsRow Rows.laid_loop_example_pub_g03235_pub_bigall_karatsubaThreshold; simp) (by kernel_rfl) (by kernel_rfl) Tryz.underlying3
  have k4 := lit_at h (n := "loop.example/pub-g03235/pub/bigall.divRecursiveThreshold") (g := 4) (ty := 3) (k := .i64) (x := 40) (by unfold Rows.fnParseFailsRow Rows.laid_loop_example_pub_g03235_pub_bigall_divRecursiveThreshold; simp) (by kernel_rfl) (by kernel_rfl) Tryz.underlying3
  have k5 := lit_at h (n := "loop.example/pub-g03235/pub/bigall.basicSqrThreshold") (g := 5) (ty := 3) (k := .i64) (x := 12) (by unfold Rows.fnParseFailsRow Rows.laid_loop_example_pub_g03235_pub_bigall_basicSqrThreshold; simp) (by kernel_rfl) (by kernel_rfl) Tryz.underlying3
  have k6 := lit_at h (n := "loop.example/pub-g03235/pub/bigall.karatsubaSqrThreshold") (g := 6) (ty := 3) (k := .i64) (x := 80) (by unfold Rows.fnParseFailsRow Rows.laid_loop_example_pub_g03235_pub_bigall_karatsubaSqrThreshold; simp) (by kernel_rfl) (by kernel_rfl) Tryz.underlying3
  have t7 := tab_at h (n := "loop.example/pub-g03235/pub/bigall.pow5tab") (g := 7) (N := 28) (ty := 272) (e := 141) (k := .u64) (xs := p5list) (by unfold Rows.fnParseFailsRow Rows.laid_loop_example_pub_g03235_pub_bigall_pow5tab; simp [p5list]) (by kernel_rfl) (by kernel_rfl) (by kernel_rfl) (by kernel_rfl) (by kernel_rfl)
  have t11 := tab_at h (n := "math/bits.deBruijn64tab") (g := 11) (N := 64) (ty := 303) (e := 5) (k := .u8) (xs := deblist) (by unfold Rows.fnParseFailsRow Rows.laid_math_bits_deBruijn64tab; simp [deblist]) (by kernel_rfl) (by kernel_rfl) (by kernel_rfl) (by kernel_rfl) (by kernel_rfl)
  exact ⟨aE, a1, a2, ⟨hE, h1, h2⟩, ⟨⟨_, h3, Or.inr ⟨_, _, rfl⟩⟩, ⟨_, h4, Or.inr ⟨_, _, rfl⟩⟩⟩, fun i hi => t7 i _ hi (p5_at i hi), k1, k4, k5, k6, fun j hj => t11 j _ hj (deb_at j hj), cell_lt h4⟩
end Go.Proofs.YtmgfajamanakcaaGreatDoor
namespace Go.Proofs.YtmgfajamanakcaaGreatDoor
set_option linter.unusedSimpArgs false
set_option linter.unusedVariables false
def isFig (c : Int) : Prop := (48 ≤ c ∧ c ≤ 57) ∨ (97 ≤ c ∧ c ≤ 102) ∨ (65 ≤ c ∧ c ≤ 70)
theorem fig_of_digOf {c b : Int} (hb : b ≤ 16) (h : digOf c < b) : isFig c := by
  unfold digOf at h
  unfold isFig
  split at h
  · omega
  · split at h
    · omega
    · split at h <;> omega
theorem runF_fig {b0 : Bool} {b : Int} {s : ByteArray} (hb : b ≤ 16) : ∀ (k p : Nat) (st : SS), st.cnt < (runF b0 b s k p st).2.cnt → ∃ i, p ≤ i ∧ i < p + k ∧ isFig (byteAt s i)
  | 0, p, st, h => by simp only [runF] at h; omega
  | k + 1, p, st, h => by
    cases hs : stepS b0 b st (byteAt s p) with
    | none => simp only [runF, hs] at h; omega
    | some st' =>
      simp only [runF, hs] at h
      by_cases hc : st'.cnt = st.cnt
      · obtain ⟨i, h1, h2, h3⟩ := runF_fig (b0 := b0) (s := s) hb k (p + 1) st' (by omega)
        exact ⟨i, by omega, by omega, h3⟩
      · refine ⟨p, Nat.le_refl _, by omega, ?_⟩
        unfold stepS at hs
        split at hs
        · injection hs with hs; subst hs; exact absurd rfl hc
        · split at hs
          · injection hs with hs; subst hs; exact absurd rfl hc
          · split at hs
            · rename_i hd
              exact fig_of_digOf hb hd
            · cases hs
theorem preS_frac {base : Int} {s : ByteArray} {p : Nat} (hb : base ≤ 16) : (preS base true s p).b ≤ 16 ∧ (preS base true s p).pf ≠ 48 ∧ p ≤ (preS base true s p).p ∧ ((preS base true s p).cnt = 0 ∨ (p < s.size ∧ byteAt s p = 48)) := by
  unfold preS
  repeat' split
  all_goals simp_all
theorem scanS_fig {base : Int} {s : ByteArray} {p : Nat} (hb : base ≤ 16) (h : (scanS base true s p).err = 0) : ∃ i, p ≤ i ∧ i < s.size ∧ isFig (byteAt s i) := by
  obtain ⟨h1, h2, h3, h4⟩ := preS_frac (s := s) (p := p) hb
  unfold scanS at h
  have h5 : (lastS base true s p).2.cnt ≠ 0 := fun e => by
    simp only [e, h2] at h
    simp at h
  rcases h4 with h4 | ⟨h4, h6⟩
  · have h7 : (startS base true s p).cnt < (lastS base true s p).2.cnt := by
      show (preS base true s p).cnt < _
      omega
    unfold lastS runS at h7
    obtain ⟨i, g1, g2, g3⟩ := runF_fig h1 _ _ _ h7
    exact ⟨i, by omega, by omega, g3⟩
  · exact ⟨p, Nat.le_refl _, h4, by rw [h6]; unfold isFig; omega⟩
end Go.Proofs.YtmgfajamanakcaaGreatDoor
