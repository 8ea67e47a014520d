/- Part of the proof of FnParse: what the functions that it reaches do, as contracts. Conditions: those that each theorem names. -/
import Derived.Test.YtmgfajamanakcaaGreatDoorRows
import Derived.WalkKit
import Derived.ProofKit
import Derived.OpenVars
import Derived.LaidMore
import Derived.Stop.Joined
import Derived.Test.YtmgfajamanakcaaGreatDoorProg
import Derived.WalkSpells
import Derived.WalkLawsBesides
import Derived.BigRegion
import Derived.BigQuiet
import Derived.Deep.RegionWith
import Derived.Lib.Hide
import Derived.Deep.DeepFit
import Derived.Deep.DeepMust
namespace Go.Proofs.YtmgfajamanakcaaGreatDoor
set_option linter.unusedVariables false
set_option linter.unusedSimpArgs false
open Go.ChangeShapes Go.WideShapes Go.ChangeAt Go.RowKit

theorem own : ownKnob Tryz.prog.godebug = none := by kernel_rfl
theorem laidOut : laidOutB Tryz.prog = true := by kernel_rfl

def typesRowed (P : Program) (ts : List TypeId) : Bool := ts.all fun t => P.readableRec t && decide (t < P.types.size)

theorem below_trodAll {H : Type} {enc : TypeId × Value → H} {P : Program} (hl : laidOutB P = true) {W W' : World} (hb : Below W.heap.size W W') :
    ∀ {ts : List TypeId} {vs : List Value} {ds : List (DataW H)} {ps : List MemPlace}, typesRowed P ts = true → DataW.TrodAll enc P W 0 (fun _ => true) true ts vs ds ps → (∀ x ∈ ps, x.block < W.heap.size) →
      DataW.TrodAll enc P W' 0 (fun b => decide (b < W.heap.size)) true ts vs ds ps
  | [], [], [], _, _, h, _ => h
  | [], [], _ :: _, _, _, h, _ => h.elim
  | [], _ :: _, _, _, _, h, _ => h.elim
  | _ :: _, [], _, _, _, h, _ => h.elim
  | _ :: _, _ :: _, [], _, _, h, _ => h.elim
  | t :: ts, v :: vs, d :: ds, ps, ht, h, hlt => by
    obtain ⟨p, q, h1, h2, rfl⟩ := h
    simp only [typesRowed, List.all_cons, Bool.and_eq_true] at ht
    refine ⟨p, q, Below.trod hl ht.1.1 (of_decide_eq_true ht.1.2) h1 hb (fun x hx => hlt x (by simp [hx])), ?_, rfl⟩
    exact below_trodAll hl hb (by simpa [typesRowed] using ht.2) h2 (fun x hx => hlt x (by simp [hx]))

theorem post_law {H : Type} {enc : TypeId × Value → H} {f : Func} {s : ChangeSpec} {W W' : World} {args : Array Value} {ds gs : List (DataW H)} {before : List MemPlace}
    (hW : DataW.Whole enc Tryz.prog f.params.toList s.vars false W args.toList ds gs before) (hb : Below W.heap.size W W')
    (hfn : s.fn H (ds ++ gs) = { results := [.lit (.bool true)], args := ds, vars := gs }) (hr : f.resultTypes = #[4])
    (hp : typesRowed Tryz.prog f.params.toList = true) (hv : varsRowed Tryz.prog s.vars = true) :
    s.post enc Tryz.prog f false true false false W args (.bool true) W' := by
  have hlt := hW.lt
  have hW' := hW
  obtain ⟨p, q, hA, hV, rfl, _, _⟩ := hW
  refine ⟨ds, gs, _, [], p, q, hW', ?_, ?_, ?_, Below.frame hb _, fun h => by cases h⟩
  · rw [hfn, hr]; exact trodAll_mk1 (shut_bool Tryz.underlying4 _)
  · rw [hfn]; exact below_trodAll laidOut hb hp hA (fun x hx => hlt x (by simp [hx]))
  · rw [hfn]; exact Below.trodVars laidOut hb hv hV

theorem trodVars_length {H : Type} {enc : TypeId × Value → H} {P : Program} {w : World} {sp : Nat → Bool} :
    ∀ {ns : List String} {gs : List (DataW H)} {ps : List MemPlace}, DataW.TrodVars enc P w sp ns gs ps → gs.length = ns.length
  | [], [], _, _ => rfl
  | [], _ :: _, _, h => h.elim
  | _ :: _, [], _, h => h.elim
  | _ :: _, _ :: _, _, h => by
    obtain ⟨_, _, _, _, _, _, _, _, _, _, h, _⟩ := h
    simp [trodVars_length h]
theorem list_four {α : Type} {l : List α} (h : l.length = 4) : ∃ a b c d, l = [a, b, c, d] := by
  match l, h with
  | [a, b, c, d], _ => exact ⟨a, b, c, d, rfl⟩
theorem list_five {α : Type} {l : List α} (h : l.length = 5) : ∃ a b c d e, l = [a, b, c, d, e] := by
  match l, h with
  | [a, b, c, d, e], _ => exact ⟨a, b, c, d, e, rfl⟩
theorem list_six {α : Type} {l : List α} (h : l.length = 6) : ∃ a b c d e f, l = [a, b, c, d, e, f] := by
  match l, h with
  | [a, b, c, d, e, f], _ => exact ⟨a, b, c, d, e, f, rfl⟩
theorem list_seven {α : Type} {l : List α} (h : l.length = 7) : ∃ a b c d e f g, l = [a, b, c, d, e, f, g] := by
  match l, h with
  | [a, b, c, d, e, f, g], _ => exact ⟨a, b, c, d, e, f, g, rfl⟩
end Go.Proofs.YtmgfajamanakcaaGreatDoor
namespace Go.Proofs.YtmgfajamanakcaaGreatDoor
set_option linter.unusedVariables false
set_option linter.unusedSimpArgs false
def BB : Int := 18446744073709551616
def U64 (x : Int) : Prop := 0 ≤ x ∧ x < 18446744073709551616
def WF (X : Nat → Int) (n : Nat) : Prop := ∀ i, i < n → U64 (X i)
def val (X : Nat → Int) : Nat → Int
  | 0 => 0
  | n + 1 => val X n + X n * BB ^ n
theorem BB_pos : (0 : Int) < BB := by decide
theorem BBn_pos (n : Nat) : (0 : Int) < BB ^ n := Int.pow_pos BB_pos
theorem BB_succ (n : Nat) : BB ^ (n + 1) = BB ^ n * BB := Int.pow_succ ..
theorem WF.le {X : Nat → Int} {n m : Nat} (h : WF X n) (hm : m ≤ n) : WF X m := fun i hi => h i (by omega)
theorem val_congr {X Y : Nat → Int} {n : Nat} (h : ∀ i, i < n → X i = Y i) : val X n = val Y n := by
  induction n with
  | zero => rfl
  | succ n ih => simp only [val]; rw [ih (fun i hi => h i (by omega)), h n (by omega)]
theorem WF.congr {X Y : Nat → Int} {n : Nat} (h : WF X n) (e : ∀ i, i < n → X i = Y i) : WF Y n := fun i hi => by rw [← e i hi]; exact h i hi
theorem val_nonneg {X : Nat → Int} {n : Nat} (h : WF X n) : 0 ≤ val X n := by
  induction n with
  | zero => exact Int.le_refl _
  | succ n ih =>
    simp only [val]
    have := Int.mul_nonneg (h n (by omega)).1 (Int.le_of_lt (BBn_pos n))
    have := ih (h.le (by omega))
    omega
theorem val_lt {X : Nat → Int} {n : Nat} (h : WF X n) : val X n < BB ^ n := by
  induction n with
  | zero => simp [val]
  | succ n ih =>
    simp only [val]
    have h1 := ih (h.le (by omega))
    have h2 : X n ≤ BB - 1 := by have := (h n (by omega)).2; unfold BB; omega
    have h3 : X n * BB ^ n ≤ (BB - 1) * BB ^ n := Int.mul_le_mul_of_nonneg_right h2 (Int.le_of_lt (BBn_pos n))
    rw [BB_succ]
    have h4 : (BB - 1) * BB ^ n = BB ^ n * BB - BB ^ n := by grind
    omega
theorem val_add (X : Nat → Int) (k m : Nat) : val X (k + m) = val X k + BB ^ k * val (fun i => X (k + i)) m := by
  induction m with
  | zero => simp [val]
  | succ m ih =>
    rw [← Nat.add_assoc]
    simp only [val]
    rw [ih, Int.pow_add]
    grind
theorem val_one (X : Nat → Int) : val X 1 = X 0 := by simp [val]
theorem val_zeros {X : Nat → Int} {n : Nat} (h : ∀ i, i < n → X i = 0) : val X n = 0 := by
  induction n with
  | zero => rfl
  | succ n ih => simp only [val]; rw [ih (fun i hi => h i (by omega)), h n (by omega)]; simp
theorem val_top {X : Nat → Int} {m n : Nat} (hm : m ≤ n) (h : ∀ i, m ≤ i → i < n → X i = 0) : val X n = val X m := by
  obtain ⟨k, rfl⟩ : ∃ k, n = m + k := ⟨n - m, by omega⟩
  rw [val_add, val_zeros (fun i hi => h (m + i) (by omega) (by omega))]
  simp
end Go.Proofs.YtmgfajamanakcaaGreatDoor
namespace Go.Proofs.YtmgfajamanakcaaGreatDoor
set_option linter.unusedVariables false
set_option linter.unusedSimpArgs false
open Go Go.RowKit

abbrev Zone := Nat → Nat → Prop
def zNone : Zone := fun _ _ => False
def zRow (b lo n : Nat) : Zone := fun b' o => b' = b ∧ lo ≤ o ∧ o < lo + n
structure Chg (Z : Zone) (w w' : World) : Prop where
  os : w'.os = w.os
  tape : w'.tape = w.tape
  output : w'.output = w.output
  size : w.heap.size ≤ w'.heap.size
  same : ∀ b, b < w.heap.size → (∀ o, ¬ Z b o) → w'.heap[b]? = w.heap[b]?
  cells : ∀ b c e fr, w.heap[b]? = some (.cells c e fr) → ∃ c', w'.heap[b]? = some (.cells c' e fr) ∧ c'.size = c.size ∧ ∀ o, ¬ Z b o → c'[o]? = c[o]?

theorem Chg.refl (Z : Zone) (w : World) : Chg Z w w := ⟨rfl, rfl, rfl, Nat.le_refl _, fun _ _ _ => rfl, fun _ c _ _ h => ⟨c, h, rfl, fun _ _ => rfl⟩⟩

theorem lt_of_cells {w : World} {b : Nat} {o : Obj} (h : w.heap[b]? = some o) : b < w.heap.size := (Array.getElem?_eq_some_iff.1 h).1

theorem Chg.trans {Z Z' : Zone} {w w1 w2 : World} (h : Chg Z w w1) (k : Chg Z' w1 w2) (hZ : ∀ b o, b < w.heap.size → Z' b o → Z b o) : Chg Z w w2 := by
  refine ⟨k.os.trans h.os, k.tape.trans h.tape, k.output.trans h.output, Nat.le_trans h.size k.size, fun b hb hn => ?_, fun b c e fr hc => ?_⟩
  · rw [k.same b (Nat.lt_of_lt_of_le hb h.size) (fun o hz => hn o (hZ b o hb hz)), h.same b hb hn]
  · obtain ⟨c1, h1, s1, e1⟩ := h.cells b c e fr hc
    obtain ⟨c2, h2, s2, e2⟩ := k.cells b c1 e fr h1
    have hb := lt_of_cells hc
    exact ⟨c2, h2, s2.trans s1, fun o ho => (e2 o (fun hz => ho (hZ b o hb hz))).trans (e1 o ho)⟩

theorem Chg.mono {Z Z' : Zone} {w w' : World} (h : Chg Z w w') (hZ : ∀ b o, b < w.heap.size → Z b o → Z' b o) : Chg Z' w w' :=
  (Chg.refl Z' w).trans h hZ

theorem Chg.drew {Z : Zone} {w w' : World} (h : Chg Z w w') : Chg Z w w'.drew := ⟨h.os, h.tape, h.output, h.size, h.same, h.cells⟩
theorem Chg.drewN {Z : Zone} {w w' : World} (h : Chg Z w w') (n : Nat) : Chg Z w { w' with drawn := w'.drawn + n } := ⟨h.os, h.tape, h.output, h.size, h.same, h.cells⟩

theorem Chg.of_below {w w' : World} (h : Below w.heap.size w w') (Z : Zone) : Chg Z w w' :=
  ⟨h.os, h.tape, h.output, h.size, fun b hb _ => h.block b hb, fun b c _ _ hc => ⟨c, (h.block b (lt_of_cells hc)).trans hc, rfl, fun _ _ => rfl⟩⟩

theorem Chg.alloc {Z : Zone} {w w' : World} (h : Chg Z w w') (o : Obj) : Chg Z w (w'.alloc o) :=
  h.trans (Chg.of_below ((Below.refl _ _).alloc (Nat.le_refl _) o) zNone) (fun _ _ _ hz => hz.elim)

theorem chg_setCell (w : World) (b o : Nat) (v : Value) : Chg (fun b' o' => b' = b ∧ o' = o) w (w.setCell ⟨b, o, none⟩ v) := by
  refine ⟨rfl, rfl, rfl, by simp [World.setCell], fun b' hb hn => ?_, fun b' c e fr hc => ?_⟩
  · have hne : b ≠ b' := fun h => hn o ⟨h.symm, rfl⟩
    simp only [World.setCell, Array.getElem?_modify]
    rw [if_neg hne]
  · by_cases hbb : b = b'
    · subst hbb
      refine ⟨c.setIfInBounds o v, ?_, by simp, fun o' ho' => ?_⟩
      · simp only [World.setCell, Array.getElem?_modify, if_true, hc, Option.map_some]
        simp
      · have hne : o ≠ o' := fun h => ho' ⟨rfl, h.symm⟩
        rw [Array.getElem?_setIfInBounds, if_neg hne]
    · refine ⟨c, ?_, rfl, fun _ _ => rfl⟩
      simp only [World.setCell, Array.getElem?_modify]
      rw [if_neg hbb]; exact hc

theorem Chg.setCell {Z : Zone} {w w' : World} (h : Chg Z w w') (b o : Nat) (v : Value) (hz : b < w.heap.size → Z b o) : Chg Z w (w'.setCell ⟨b, o, none⟩ v) :=
  h.trans (chg_setCell w' b o v) (fun b' o' hb hbo => by obtain ⟨rfl, rfl⟩ := hbo; exact hz hb)

theorem Chg.cell {Z : Zone} {w w' : World} (h : Chg Z w w') {b o : Nat} {v : Value} (hc : w.cell? ⟨b, o, none⟩ = some v) (hz : ¬ Z b o) : w'.cell? ⟨b, o, none⟩ = some v := by
  unfold World.cell? at hc ⊢
  cases hb : w.heap[b]? with
  | none => simp [hb] at hc
  | some ob =>
    cases ob with
    | cells c e fr =>
      obtain ⟨c', h1, _, h2⟩ := h.cells b c e fr hb
      simp [hb] at hc
      simp [h1, h2 o hz, hc]
    | _ => simp [hb] at hc

theorem Chg.isCell {Z : Zone} {w w' : World} (h : Chg Z w w') {b o : Nat} (hc : (w.cell? ⟨b, o, none⟩).isSome = true) : (w'.cell? ⟨b, o, none⟩).isSome = true := by
  unfold World.cell? at hc ⊢
  cases hb : w.heap[b]? with
  | none => simp [hb] at hc
  | some ob =>
    cases ob with
    | cells c e fr =>
      obtain ⟨c', h1, h2, _⟩ := h.cells b c e fr hb
      simp [hb] at hc
      simp [h1, h2, hc]
    | _ => simp [hb] at hc

theorem Chg.frozen {Z : Zone} {w w' : World} (h : Chg Z w w') {b o : Nat} {v : Value} (hc : w.cell? ⟨b, o, none⟩ = some v) (o' : Nat) : w'.frozen? ⟨b, o', none⟩ = w.frozen? ⟨b, o', none⟩ := by
  unfold World.cell? at hc
  unfold World.frozen?
  cases hb : w.heap[b]? with
  | none => simp [hb] at hc
  | some ob =>
    cases ob with
    | cells c e fr =>
      obtain ⟨c', h1, _, _⟩ := h.cells b c e fr hb
      simp [h1]
    | _ => simp [hb] at hc

theorem lt_of_cell {w : World} {b o : Nat} {v : Value} (h : w.cell? ⟨b, o, none⟩ = some v) : b < w.heap.size := by
  unfold World.cell? at h
  cases hb : w.heap[b]? with
  | none => simp [hb] at h
  | some ob => exact lt_of_cells hb

def Words (w : World) (b off n : Nat) (X : Nat → Int) : Prop := ∀ i, i < n → w.cell? ⟨b, off + i, none⟩ = some (.int .u64 (X i))
def Free (w : World) (b off n : Nat) : Prop := ∀ i, i < n → w.frozen? ⟨b, off + i, none⟩ = false
def Room (w : World) (b off n : Nat) : Prop := ∀ i, i < n → (∃ x : Int, w.cell? ⟨b, off + i, none⟩ = some (.int .u64 x)) ∧ w.frozen? ⟨b, off + i, none⟩ = false

theorem Words.chg {Z : Zone} {w w' : World} {b off n : Nat} {X : Nat → Int} (h : Words w b off n X) (k : Chg Z w w') (hz : ∀ i, i < n → ¬ Z b (off + i)) : Words w' b off n X :=
  fun i hi => k.cell (h i hi) (hz i hi)
theorem Words.le {w : World} {b off n m : Nat} {X : Nat → Int} (h : Words w b off n X) (hm : m ≤ n) : Words w b off m X := fun i hi => h i (by omega)
theorem Words.drop {w : World} {b off n : Nat} {X : Nat → Int} (h : Words w b off n X) (k m : Nat) (hk : k + m ≤ n) : Words w b (off + k) m (fun i => X (k + i)) := fun i hi => by
  have := h (k + i) (by omega)
  rwa [← Nat.add_assoc] at this
theorem Words.congr {w : World} {b off n : Nat} {X Y : Nat → Int} (h : Words w b off n X) (e : ∀ i, i < n → X i = Y i) : Words w b off n Y := fun i hi => by rw [← e i hi]; exact h i hi
theorem Words.join {w : World} {b off n m : Nat} {X Y : Nat → Int} (h : Words w b off n X) (k : Words w b (off + n) m Y) : Words w b off (n + m) (fun i => if i < n then X i else Y (i - n)) := fun i hi => by
  by_cases hn : i < n
  · simp only [hn, if_true]; exact h i hn
  · simp only [hn, if_false]
    have := k (i - n) (by omega)
    rwa [show off + n + (i - n) = off + i by omega] at this
theorem Free.chg {Z : Zone} {w w' : World} {b off n : Nat} {X : Nat → Int} (hf : Free w b off n) (h : Words w b off n X) (k : Chg Z w w') : Free w' b off n :=
  fun i hi => by rw [k.frozen (h i hi)]; exact hf i hi
theorem Room.chg {Z : Zone} {w w' : World} {b off n : Nat} (h : Room w b off n) (k : Chg Z w w') (hz : ∀ i, i < n → ¬ Z b (off + i)) : Room w' b off n :=
  fun i hi => by
    obtain ⟨⟨x, hx⟩, hf⟩ := h i hi
    exact ⟨⟨x, k.cell hx (hz i hi)⟩, by rw [k.frozen hx]; exact hf⟩
theorem Room.le {w : World} {b off n m : Nat} (h : Room w b off n) (hm : m ≤ n) : Room w b off m := fun i hi => h i (by omega)
theorem Room.drop {w : World} {b off n : Nat} (h : Room w b off n) (k m : Nat) (hk : k + m ≤ n) : Room w b (off + k) m := fun i hi => by
  have := h (k + i) (by omega)
  rwa [← Nat.add_assoc] at this
theorem Room.join {w : World} {b off n m : Nat} (h : Room w b off n) (k : Room w b (off + n) m) : Room w b off (n + m) := fun i hi => by
  by_cases hn : i < n
  · exact h i hn
  · have := k (i - n) (by omega)
    rwa [show off + n + (i - n) = off + i by omega] at this
theorem Words.room {w : World} {b off n : Nat} {X : Nat → Int} (h : Words w b off n X) (hf : Free w b off n) : Room w b off n := fun i hi => ⟨⟨X i, h i hi⟩, hf i hi⟩
theorem Room.words {w : World} {b off n : Nat} (h : Room w b off n) : ∃ X : Nat → Int, Words w b off n X := by
  refine ⟨fun i => if hi : i < n then Classical.choose (h i hi).1 else 0, fun i hi => ?_⟩
  simp only [hi, dif_pos]
  exact Classical.choose_spec (h i hi).1
theorem Room.free {w : World} {b off n : Nat} (h : Room w b off n) : Free w b off n := fun i hi => (h i hi).2
end Go.Proofs.YtmgfajamanakcaaGreatDoor
namespace Go.Proofs.YtmgfajamanakcaaGreatDoor
set_option linter.unusedVariables false
set_option linter.unusedSimpArgs false
open Go.RowKit
set_option maxRecDepth 100000
def TwoWords (P : Int → Int → Prop) (w : World) (e : Ending) (w' : World) : Prop := ∃ a b : Int, e = .returned (.tuple #[.int .u64 a, .int .u64 b]) ∧ P a b ∧ w = w'
theorem wrap_u64 (z : Int) : IntKind.u64.wrap z = z % 18446744073709551616 := by
  simp [IntKind.wrap, IntKind.signed, IntKind.bits]
theorem mul64_post (x y : Int) (hx0 : 0 ≤ x) (hx1 : x < 18446744073709551616) (hy0 : 0 ≤ y) (hy1 : y < 18446744073709551616) :
    U64 (IntKind.u64.wrap (IntKind.u64.wrap (IntKind.u64.wrap (x / 4294967296 * (y / 4294967296)) + IntKind.u64.wrap (IntKind.u64.wrap (x / 4294967296 * bits BinOp.and IntKind.u64 y 4294967295) +
       IntKind.u64.wrap (bits BinOp.and IntKind.u64 x 4294967295 * bits BinOp.and IntKind.u64 y 4294967295) / 4294967296) / 4294967296) +
       IntKind.u64.wrap (bits BinOp.and IntKind.u64 (IntKind.u64.wrap (IntKind.u64.wrap (x / 4294967296 * bits BinOp.and IntKind.u64 y 4294967295) + IntKind.u64.wrap
         (bits BinOp.and IntKind.u64 x 4294967295 * bits BinOp.and IntKind.u64 y 4294967295) / 4294967296)) 4294967295 +
            IntKind.u64.wrap (bits BinOp.and IntKind.u64 x 4294967295 * (y / 4294967296))) / 4294967296)) ∧ U64 (IntKind.u64.wrap (x * y)) ∧
    (IntKind.u64.wrap (IntKind.u64.wrap (IntKind.u64.wrap (x / 4294967296 * (y / 4294967296)) + IntKind.u64.wrap (IntKind.u64.wrap (x / 4294967296 * bits BinOp.and IntKind.u64 y 4294967295) +
       IntKind.u64.wrap (bits BinOp.and IntKind.u64 x 4294967295 * bits BinOp.and IntKind.u64 y 4294967295) / 4294967296) / 4294967296) +
       IntKind.u64.wrap (bits BinOp.and IntKind.u64 (IntKind.u64.wrap (IntKind.u64.wrap (x / 4294967296 * bits BinOp.and IntKind.u64 y 4294967295) + IntKind.u64.wrap
         (bits BinOp.and IntKind.u64 x 4294967295 * bits BinOp.and IntKind.u64 y 4294967295) / 4294967296)) 4294967295 +
            IntKind.u64.wrap (bits BinOp.and IntKind.u64 x 4294967295 * (y / 4294967296))) / 4294967296)) * BB + IntKind.u64.wrap (x * y) = x * y := by
  rw [and_low32 x hx0 hx1, and_low32 y hy0 hy1, and_low32 (IntKind.u64.wrap _) (by rw [wrap_u64]; omega) (by rw [wrap_u64]; omega)]
  simp only [wrap_u64]
  rw [mul64_arith x y hx0 hx1 hy0 hy1]
  have hxy : x * y < 18446744073709551616 * 18446744073709551616 := by
    have := Int.mul_le_mul (Int.le_sub_one_of_lt hx1) (Int.le_sub_one_of_lt hy1) hy0 (by omega)
    omega
  have hxy0 : 0 ≤ x * y := Int.mul_nonneg hx0 hy0
  unfold U64 BB
  generalize x * y = p at *
  omega
set_option maxHeartbeats 1000000 in
theorem Mul64_any (x y : Int) (w : World) (hx : U64 x) (hy : U64 y) :
    Calls Tryz.prog 267 #[.int .u64 x, .int .u64 y] w (TwoWords (fun hi lo => U64 hi ∧ U64 lo ∧ hi * BB + lo = x * y) w) := by
  obtain ⟨hx0, hx1⟩ := hx
  obtain ⟨hy0, hy1⟩ := hy
  go_enter Tryz.func267, Tryz.ntmps267
  go_wp2
  go_ret2
  exact ⟨_, _, rfl, mul64_post x y hx0 hx1 hy0 hy1, rfl⟩
theorem mul_le_sq (x y : Int) (hx : U64 x) (hy : U64 y) : 0 ≤ x * y ∧ x * y ≤ 18446744073709551615 * 18446744073709551615 := by
  refine ⟨Int.mul_nonneg hx.1 hy.1, ?_⟩
  have := Int.mul_le_mul (Int.le_sub_one_of_lt hx.2) (Int.le_sub_one_of_lt hy.2) hy.1 (by omega)
  omega
theorem mulAdd_last (x y c hi lo s c' : Int) (hx : U64 x) (hy : U64 y) (hc : U64 c) (hp : U64 hi ∧ U64 lo ∧ hi * BB + lo = x * y) (hq : U64 s ∧ (0 ≤ c' ∧ c' ≤ 1) ∧ s + c' * BB = lo + c + 0) :
    U64 (IntKind.u64.wrap (hi + c')) ∧ U64 s ∧ IntKind.u64.wrap (hi + c') * BB + s = x * y + c := by
  have hm := mul_le_sq x y hx hy
  obtain ⟨⟨h1, h2⟩, ⟨h3, h4⟩, h5⟩ := hp
  obtain ⟨⟨q1, q2⟩, ⟨q3, q4⟩, q5⟩ := hq
  obtain ⟨c1, c2⟩ := hc
  rw [wrap_u64]
  unfold U64
  unfold BB at *
  generalize x * y = p at *
  omega
theorem Mul_any (x y : Int) (w : World) (hx : U64 x) (hy : U64 y) :
    Calls Tryz.prog 245 #[.int .u64 x, .int .u64 y] w (TwoWords (fun hi lo => U64 hi ∧ U64 lo ∧ hi * BB + lo = x * y) w) := by
  have Hx := Lib.hid hx
  have Hy := Lib.hid hy
  go_enter Tryz.func245, Tryz.ntmps245
  go_wp2_with (go_at_call 267; refine (Mul64_any x y _ Hx.out Hy.out).mono ?_; rintro e w' ⟨hi, lo, rfl, hp, rfl⟩; have Hp := Lib.hid hp; clear hp)
  go_ret2
  exact ⟨hi, lo, rfl, Hp.out, rfl⟩
theorem run_Add64 (x y c : Int) (hx : U64 x) (hy : U64 y) (hc : 0 ≤ c ∧ c ≤ 1) : ∃ s c' : Int, (U64 s ∧ (0 ≤ c' ∧ c' ≤ 1) ∧ s + c' * BB = x + y + c) ∧
    ∀ w, (callFunc 250 #[.int .u64 x, .int .u64 y, .int .u64 c]).run Tryz.prog w = .ok (.value (.tuple #[.int .u64 s, .int .u64 c'])) w := by
  obtain ⟨hx0, hx1⟩ := hx
  obtain ⟨hy0, hy1⟩ := hy
  refine ⟨(x + y + c) % 18446744073709551616, (x + y + c) / 18446744073709551616, ⟨⟨by omega, by omega⟩, by omega, by unfold BB; omega⟩, fun w => ?_⟩
  rw [run_callFunc_extern Tryz.func250 (by kernel_rfl) (by kernel_rfl) (by kernel_rfl) (e := add64Entry) (by kernel_rfl), run_add64 x y c hx0 hy0 hc.1 hc.2]
  rfl
theorem Add_any (x y c : Int) (w : World) (hx : U64 x) (hy : U64 y) (hc : 0 ≤ c ∧ c ≤ 1) :
    Calls Tryz.prog 223 #[.int .u64 x, .int .u64 y, .int .u64 c] w (TwoWords (fun s c' => U64 s ∧ (0 ≤ c' ∧ c' ≤ 1) ∧ s + c' * BB = x + y + c) w) := by
  obtain ⟨s, c', hp, hrun⟩ := run_Add64 x y c hx hy hc
  have Hp := Lib.hid hp
  clear hp hx hy hc
  go_enter Tryz.func223, Tryz.ntmps223
  go_wp2
  go_ret2
  exact ⟨s, c', rfl, Hp.out, rfl⟩
def sub64Entry : Array Value → Sem Value := fun args => do
  let (x, y, b) ← Extern.MathBitsCarry.three "Sub64" args
  pure (Extern.MathBitsCarry.pair ((x + Extern.MathBitsCarry.m64 - y - b) % Extern.MathBitsCarry.m64) (if x < y + b then 1 else 0))
theorem run_sub64 {P : Program} (x y b : Nat) (hb : b ≤ 1) (w : World) :
    (sub64Entry #[.int .u64 x, .int .u64 y, .int .u64 b]).run P w =
      .ok (.tuple #[.int .u64 (((x + 18446744073709551616 - y - b) % 18446744073709551616 : Nat) : Int), .int .u64 ((if x < y + b then 1 else 0 : Nat) : Int)]) w := by
  have : b = 0 ∨ b = 1 := by omega
  rcases this with rfl | rfl <;> rfl
theorem run_Sub64 (x y c : Int) (hx : U64 x) (hy : U64 y) (hc : 0 ≤ c ∧ c ≤ 1) : ∃ s c' : Int, (U64 s ∧ (0 ≤ c' ∧ c' ≤ 1) ∧ s - c' * BB = x - y - c) ∧
    ∀ w, (callFunc 252 #[.int .u64 x, .int .u64 y, .int .u64 c]).run Tryz.prog w = .ok (.value (.tuple #[.int .u64 s, .int .u64 c'])) w := by
  obtain ⟨hx0, hx1⟩ := hx
  obtain ⟨hy0, hy1⟩ := hy
  obtain ⟨hc0, hc1⟩ := hc
  obtain ⟨x, rfl⟩ := Int.eq_ofNat_of_zero_le hx0
  obtain ⟨y, rfl⟩ := Int.eq_ofNat_of_zero_le hy0
  obtain ⟨c, rfl⟩ := Int.eq_ofNat_of_zero_le hc0
  refine ⟨((x + 18446744073709551616 - y - c) % 18446744073709551616 : Nat), ((if x < y + c then 1 else 0 : Nat) : Int), ⟨⟨by omega, by omega⟩, by split <;> omega, by unfold BB; split <;> omega⟩, fun w => ?_⟩
  rw [run_callFunc_extern Tryz.func252 (by kernel_rfl) (by kernel_rfl) (by kernel_rfl) (e := sub64Entry) (by kernel_rfl), run_sub64 x y c (by omega)]
  rfl
theorem Sub_any (x y c : Int) (w : World) (hx : U64 x) (hy : U64 y) (hc : 0 ≤ c ∧ c ≤ 1) :
    Calls Tryz.prog 225 #[.int .u64 x, .int .u64 y, .int .u64 c] w (TwoWords (fun s c' => U64 s ∧ (0 ≤ c' ∧ c' ≤ 1) ∧ s - c' * BB = x - y - c) w) := by
  obtain ⟨s, c', hp, hrun⟩ := run_Sub64 x y c hx hy hc
  have Hp := Lib.hid hp
  clear hp hx hy hc
  go_enter Tryz.func225, Tryz.ntmps225
  go_wp2
  go_ret2
  exact ⟨s, c', rfl, Hp.out, rfl⟩
set_option maxHeartbeats 1000000 in
theorem mulAddWWW_any (x y c : Int) (w : World) (hx : U64 x) (hy : U64 y) (hc : U64 c) :
    Calls Tryz.prog 268 #[.int .u64 x, .int .u64 y, .int .u64 c] w (TwoWords (fun hi lo => U64 hi ∧ U64 lo ∧ hi * BB + lo = x * y + c) w) := by
  have Hx := Lib.hid hx
  have Hy := Lib.hid hy
  have Hc := Lib.hid hc
  clear hx hy hc
  go_enter Tryz.func268, Tryz.ntmps268
  go_wp2_with fail
  refine (Mul_any x y _ Hx.out Hy.out).mono ?_
  rintro e w' ⟨hi, lo, rfl, hp, rfl⟩
  have Hp := Lib.hid hp
  clear hp
  go_wp2_with fail
  refine (Add_any lo c 0 _ Hp.out.2.1 Hc.out (by omega)).mono ?_
  rintro e w' ⟨s, c', rfl, hq, rfl⟩
  have Hq := Lib.hid hq
  clear hq
  have hlast : U64 (IntKind.u64.wrap (hi + c')) ∧ U64 s ∧ IntKind.u64.wrap (hi + c') * BB + s = x * y + c := by
    obtain ⟨⟨h1, h2⟩, ⟨h3, h4⟩, h5⟩ := Hp.out
    obtain ⟨⟨q1, q2⟩, ⟨q3, q4⟩, q5⟩ := Hq.out
    exact mulAdd_last x y c hi lo s c' Hx.out Hy.out Hc.out Hp.out Hq.out
  have HL := Lib.hid hlast
  clear hlast
  go_wp2
  go_ret2
  exact ⟨_, _, rfl, HL.out, rfl⟩
end Go.Proofs.YtmgfajamanakcaaGreatDoor
