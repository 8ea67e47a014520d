/- Part of the proof of FnParse: what the functions that it reaches do, as contracts. Conditions: those that each theorem names. -/
import Derived.Test.YtmgfajamanakcaaGreatDoorD04
import Derived.Test.YtmgfajamanakcaaGreatDoorD28
namespace Go.Proofs.YtmgfajamanakcaaGreatDoor
set_option linter.unusedVariables false
set_option linter.unusedSimpArgs false
open Go.RowKit
set_option maxRecDepth 100000
def BWords (w : World) (b off n : Nat) (X : Nat → Int) : Prop := ∀ i, i < n → w.cell? ⟨b, off + i, none⟩ = some (.int .u8 (X i))
def BFree (w : World) (b off n : Nat) : Prop := ∀ i, i < n → w.frozen? ⟨b, off + i, none⟩ = false
def BRoom (w : World) (b off n : Nat) : Prop := ∀ i, i < n → (∃ x : Int, w.cell? ⟨b, off + i, none⟩ = some (.int .u8 x)) ∧ w.frozen? ⟨b, off + i, none⟩ = false

theorem BWords.chg {Z : Zone} {w w' : World} {b off n : Nat} {X : Nat → Int} (h : BWords w b off n X) (k : Chg Z w w') (hz : ∀ i, i < n → ¬ Z b (off + i)) : BWords w' b off n X :=
  fun i hi => k.cell (h i hi) (hz i hi)
theorem BWords.le {w : World} {b off n m : Nat} {X : Nat → Int} (h : BWords w b off n X) (hm : m ≤ n) : BWords w b off m X := fun i hi => h i (by omega)
theorem BWords.drop {w : World} {b off n : Nat} {X : Nat → Int} (h : BWords w b off n X) (k m : Nat) (hk : k + m ≤ n) : BWords w b (off + k) m (fun i => X (k + i)) := fun i hi => by
  have := h (k + i) (by omega)
  rwa [← Nat.add_assoc] at this
theorem BWords.congr {w : World} {b off n : Nat} {X Y : Nat → Int} (h : BWords w b off n X) (e : ∀ i, i < n → X i = Y i) : BWords w b off n Y := fun i hi => by rw [← e i hi]; exact h i hi
theorem BWords.join {w : World} {b off n m : Nat} {X Y : Nat → Int} (h : BWords w b off n X) (k : BWords w b (off + n) m Y) : BWords w b off (n + m) (fun i => if i < n then X i else Y (i - n)) := fun i hi => by
  by_cases hn : i < n
  · simp only [hn, if_true]; exact h i hn
  · simp only [hn, if_false]
    have := k (i - n) (by omega)
    rwa [show off + n + (i - n) = off + i by omega] at this
theorem BFree.chg {Z : Zone} {w w' : World} {b off n : Nat} {X : Nat → Int} (hf : BFree w b off n) (h : BWords w b off n X) (k : Chg Z w w') : BFree w' b off n :=
  fun i hi => by rw [k.frozen (h i hi)]; exact hf i hi
theorem BRoom.chg {Z : Zone} {w w' : World} {b off n : Nat} (h : BRoom w b off n) (k : Chg Z w w') (hz : ∀ i, i < n → ¬ Z b (off + i)) : BRoom w' b off n :=
  fun i hi => by
    obtain ⟨⟨x, hx⟩, hf⟩ := h i hi
    exact ⟨⟨x, k.cell hx (hz i hi)⟩, by rw [k.frozen hx]; exact hf⟩
theorem BRoom.le {w : World} {b off n m : Nat} (h : BRoom w b off n) (hm : m ≤ n) : BRoom w b off m := fun i hi => h i (by omega)
theorem BRoom.drop {w : World} {b off n : Nat} (h : BRoom w b off n) (k m : Nat) (hk : k + m ≤ n) : BRoom w b (off + k) m := fun i hi => by
  have := h (k + i) (by omega)
  rwa [← Nat.add_assoc] at this
theorem BRoom.join {w : World} {b off n m : Nat} (h : BRoom w b off n) (k : BRoom w b (off + n) m) : BRoom w b off (n + m) := fun i hi => by
  by_cases hn : i < n
  · exact h i hn
  · have := k (i - n) (by omega)
    rwa [show off + n + (i - n) = off + i by omega] at this
theorem BWords.room {w : World} {b off n : Nat} {X : Nat → Int} (h : BWords w b off n X) (hf : BFree w b off n) : BRoom w b off n := fun i hi => ⟨⟨X i, h i hi⟩, hf i hi⟩
theorem BRoom.words {w : World} {b off n : Nat} (h : BRoom w b off n) : ∃ X : Nat → Int, BWords w b off n X := by
  refine ⟨fun i => if hi : i < n then Classical.choose (h i hi).1 else 0, fun i hi => ?_⟩
  simp only [hi, dif_pos]
  exact Classical.choose_spec (h i hi).1
theorem BRoom.free {w : World} {b off n : Nat} (h : BRoom w b off n) : BFree w b off n := fun i hi => (h i hi).2
def BZOK (w : World) (a : Option Addr) (c : Nat) : Prop := (a = none ∧ c = 0) ∨ ∃ b o, a = some ⟨b, o, none⟩ ∧ PB w b ∧ BRoom w b o c ∧ c < 9223372036854775808
theorem BZOK.cap {w : World} {a : Option Addr} {c : Nat} (h : BZOK w a c) : c < 9223372036854775808 := by
  rcases h with ⟨_, h⟩ | ⟨_, _, _, _, _, h⟩ <;> omega
def BRd (w : World) (a : Option Addr) (n : Nat) (X : Nat → Int) : Prop := n = 0 ∨ ∃ b o, a = some ⟨b, o, none⟩ ∧ BWords w b o n X
theorem broom_made (w : World) (n : Nat) : BRoom (w.alloc (.cells (madeCells #[.int .u8 0] n) 5)) w.heap.size 0 n := fun i hi => by
  have h : (madeCells #[Value.int .u8 0] n)[0 + i]? = some (.int .u8 0) := by
    simp [madeCells, hi, Nat.mod_one]
  exact ⟨⟨0, cell?_alloc_new w _ _ _ _ h⟩, frozen?_alloc_new w _ _ _⟩
theorem info5 : (Tryz.prog.info? 5).map (fun i => (i.zero, i.size, i.bytes)) = some (some (.int .u8 0), 1, 1) := by kernel_rfl
theorem run_make_bytes (w : World) (l c : Int) (h0 : 0 ≤ l) (hlc : l ≤ c) (hc : c ≤ 35184372088832) :
    (Instr.makeSlice 100 (.int .i64 l) (.int .i64 c)).run Tryz.prog w = .ok (.slice (some ⟨w.heap.size, 0, none⟩) l.toNat c.toNat) (w.alloc (.cells (madeCells #[.int .u8 0] c.toNat) 5)) := by
  obtain ⟨i0, hi, hz0, hz1, hz2⟩ := info_parts info5
  have := run_make (P := Tryz.prog) w 100 5 i0 (.int .u8 0) Tryz.underlying100 hi hz0 .i64 .i64 l c h0 hlc (by rw [hz2]; omega) (by omega)
  rw [this, hz1, Nat.mul_one]
  rfl
theorem BZOK.chg {Z : Zone} {w w' : World} {a : Option Addr} {c : Nat} (h : BZOK w a c) (k : Chg Z w w') (hz : ∀ b o, zAddr a c b o → ¬ Z b o) : BZOK w' a c := by
  rcases h with h | ⟨b, o, rfl, h1, h2, h3⟩
  · exact Or.inl h
  · exact Or.inr ⟨b, o, rfl, h1.chg k, h2.chg k (fun i hi => hz b (o + i) ⟨o, rfl, by omega, by omega⟩), h3⟩
theorem BZOK.room {w : World} {a : Option Addr} {c : Nat} (h : BZOK w a c) (hc : 0 < c) : ∃ b o, a = some ⟨b, o, none⟩ ∧ PB w b ∧ BRoom w b o c := by
  rcases h with ⟨_, h⟩ | ⟨b, o, h1, h2, h3, _⟩
  · omega
  · exact ⟨b, o, h1, h2, h3⟩
theorem bcell_setInt {w : World} {b o : Nat} {b' o' : Nat} {y : Int} (v : Int) (h : w.cell? ⟨b, o, none⟩ = some (.int .u8 y)) :
    ∃ z : Int, (w.setCell ⟨b', o', none⟩ (.int .u8 v)).cell? ⟨b, o, none⟩ = some (.int .u8 z) := by
  by_cases e : (⟨b', o', none⟩ : Addr) = ⟨b, o, none⟩
  · rw [e]; exact ⟨v, World.cell?_setCell_same' _ _ _ (by rw [h]; rfl)⟩
  · exact ⟨y, by rw [World.cell?_setCell_other w _ _ _ e]; exact h⟩
theorem BRoom.setInt {w : World} {b o n : Nat} (h : BRoom w b o n) (b' o' : Nat) (v : Int) : BRoom (w.setCell ⟨b', o', none⟩ (.int .u8 v)) b o n := fun i hi => by
  obtain ⟨⟨y, hy⟩, hf⟩ := h i hi
  refine ⟨bcell_setInt v hy, ?_⟩
  rw [(chg_setCell w b' o' _).frozen hy]; exact hf
theorem BZOK.setInt {w : World} {a : Option Addr} {c : Nat} (h : BZOK w a c) (b' o' : Nat) (v : Int) : BZOK (w.setCell ⟨b', o', none⟩ (.int .u8 v)) a c := by
  rcases h with h | ⟨b, o, rfl, h1, h2, h3⟩
  · exact Or.inl h
  · exact Or.inr ⟨b, o, rfl, h1.chg (chg_setCell w b' o' _), h2.setInt b' o' v, h3⟩
theorem BWords.snoc {w : World} {b off k : Nat} {Z : Nat → Int} {v : Int} (h : BWords w b off k Z) (hc : (w.cell? ⟨b, off + k, none⟩).isSome = true) :
    BWords (w.setCell ⟨b, off + k, none⟩ (.int .u8 v)) b off (k + 1) (upd Z k v) := fun i hi => by
  by_cases hik : i = k
  · subst hik; rw [upd_same]; exact World.cell?_setCell_same' _ _ _ hc
  · rw [upd_other Z v hik]
    have e : (w.setCell ⟨b, off + k, none⟩ (.int .u8 v)).cell? ⟨b, off + i, none⟩ = w.cell? ⟨b, off + i, none⟩ := World.cell?_setCell_other w _ _ _ (by intro h; injection h with _ h2 _; omega)
    rw [e]; exact h i (by omega)
def BAppRes (W : World) (a : Option Addr) (n c : Nat) (X : Nat → Int) (x : Int) (a' : Option Addr) (c' : Nat) (W' : World) : Prop :=
  n + 1 ≤ c' ∧ BZOK W' a' c' ∧ BRd W' a' (n + 1) (upd X n x) ∧ Home W a c a' c' ∧ Chg (zAddr a c) W W'
def byteVals (X : Nat → Int) (n : Nat) : List Value := (List.range n).map fun i => .int .u8 (X i)
theorem byteVals_length (X : Nat → Int) (n : Nat) : (byteVals X n).length = n := by simp [byteVals]
theorem byteVals_get (X : Nat → Int) (n j : Nat) (v : Value) (h : (byteVals X n)[j]? = some v) : j < n ∧ v = .int .u8 (X j) := by
  unfold byteVals at h
  rw [List.getElem?_map] at h
  by_cases hj : j < n
  · rw [List.getElem?_range hj] at h
    exact ⟨hj, by simpa using h.symm⟩
  · rw [List.getElem?_eq_none (by simpa using hj)] at h; cases h
theorem zeroCells_byte (k : Nat) : Builtin.zeroCells #[.int .u8 0] k = Array.replicate k (.int .u8 0) := by
  apply Array.ext
  · simp [Builtin.zeroCells]
  · intro i h1 h2
    simp [Builtin.zeroCells, Nat.mod_one]
theorem new_bytes (w : World) (X : Nat → Int) (n k : Nat) :
    BWords (w.alloc (.cells ((byteVals X n).toArray ++ Array.replicate k (.int .u8 0)) 5)) w.heap.size 0 n X ∧ BRoom (w.alloc (.cells ((byteVals X n).toArray ++ Array.replicate k (.int .u8 0)) 5)) w.heap.size 0 (n + k) := by
  have hget : ∀ i, i < n → ((byteVals X n).toArray ++ Array.replicate k (Value.int .u8 0))[i]? = some (.int .u8 (X i)) := fun i hi => by
    rw [Array.getElem?_append_left (by simpa [byteVals] using hi)]
    simp [byteVals, hi]
  have hget2 : ∀ i, n ≤ i → i < n + k → ((byteVals X n).toArray ++ Array.replicate k (Value.int .u8 0))[i]? = some (.int .u8 0) := fun i h1 h2 => by
    rw [Array.getElem?_append_right (by simpa [byteVals] using h1)]
    simp only [List.size_toArray, byteVals_length]
    rw [Array.getElem?_replicate, if_pos (by omega)]
  refine ⟨fun i hi => ?_, fun i hi => ⟨?_, frozen?_alloc_new w _ _ _⟩⟩
  · rw [Nat.zero_add]; exact cell?_alloc_new w _ _ _ _ (hget i hi)
  · rw [Nat.zero_add]
    by_cases h : i < n
    · exact ⟨_, cell?_alloc_new w _ _ _ _ (hget i h)⟩
    · exact ⟨_, cell?_alloc_new w _ _ _ _ (hget2 i (by omega) hi)⟩



theorem run_append_byte (a : Option Addr) (n c : Nat) (X : Nat → Int) (x : Int) (W : World) (hz : BZOK W a c) (hr : BRd W a n X) (hnc : n ≤ c) (hn : n < 1099511627776) (ad : Addr) (hx : W.cell? ad = some (.int .u8 x)) (ty : TypeId) :
    ∃ a' c' W', (Builtin.append_ #[100, 100] ty #[.slice a n c, .slice (some ad) 1 1]).run Tryz.prog W = .ok (.slice a' (n + 1) c') W' ∧ BAppRes W a n c X x a' c' W' := by
  obtain ⟨i0, hi, hz0, hz1, hz2⟩ := info_parts info5
  have hnews : ∀ j v, [Value.int .u8 x][j]? = some v → W.cell? (ad.add j) = some v := fun j v h => by
    cases j with
    | zero => simp at h; subst h; simpa [Addr.add] using hx
    | succ j => simp at h
  have hupd : ∀ i, i < n → X i = upd X n x i := fun i hi => (upd_other X x (by omega)).symm
  rcases hz with ⟨rfl, rfl⟩ | ⟨b, o, rfl, hb, hroom, hcap⟩
  · obtain rfl : n = 0 := by omega
    have hrun := run_append_nil (P := Tryz.prog) W 100 ty 5 i0 (.int .u8 0) Tryz.underlying100 hi hz0 ad 1 1 [.int .u8 x] (by rw [hz1]; rfl) hnews (by omega) (by omega) (by rw [hz2]; omega)
    have hg := grownCap_ge W 1 0 5 (by omega)
    have hw := new_bytes W.drew (fun _ => x) 1 (grownCap W 1 0 5 - 1)
    rw [show ((Value.int .u8 0).cells) = #[Value.int .u8 0] from rfl, zeroCells_byte] at hrun
    refine ⟨_, _, _, hrun, by omega, Or.inr ⟨_, _, rfl, PB.new W.drew _ _, ?_, hg.2⟩, Or.inr ⟨_, _, rfl, ?_⟩, Or.inr ⟨_, _, rfl, Nat.le_refl _⟩, chg_drew_alloc _ _ _⟩
    · have := hw.2
      rwa [show 1 + (grownCap W 1 0 5 - 1) = grownCap W 1 0 5 by omega] at this
    · exact hw.1.congr (fun i hi => by obtain rfl : i = 0 := by omega
                                       exact (upd_same X 0 x).symm)
  · have hX : n = 0 ∨ BWords W b o n X := by
      rcases hr with h | ⟨b', o', e, hw⟩
      · exact Or.inl h
      · injection e with e; injection e with e1 e2; subst e1; subst e2; exact Or.inr hw
    have hX' : BWords W b o n X := by
      rcases hX with h | h
      · intro i hi; omega
      · exact h
    by_cases hfit : n + 1 ≤ c
    · have hrun := run_append_room_cells (P := Tryz.prog) W 100 ty 5 i0 Tryz.underlying100 hi b o n c ad 1 1 [.int .u8 x] (by rw [hz1]; rfl) hnews (fun u hu => by simp at hu; subst hu; rfl) hfit
        (fun j hj => by
          obtain rfl : j = 0 := by simp at hj; exact hj
          rw [hz1, Nat.mul_one, Nat.add_zero]
          obtain ⟨⟨y, hy⟩, _⟩ := hroom n (by omega)
          rw [hy]; rfl)
        (fun j hj => by
          obtain rfl : j = 0 := by simp at hj; exact hj
          rw [hz1, Nat.mul_one, Nat.add_zero]
          exact (hroom n (by omega)).2)
      rw [hz1, Nat.mul_one] at hrun
      have hwd : W.setCells b (o + n) [.int .u8 x] = W.setCell ⟨b, o + n, none⟩ (.int .u8 x) := rfl
      rw [hwd] at hrun
      refine ⟨_, _, _, hrun, hfit, ?_, Or.inr ⟨b, o, rfl, hX'.snoc ?_⟩, Or.inl ⟨rfl, rfl⟩, (Chg.refl _ _).setCell b (o + n) _ (fun _ => ⟨o, rfl, by omega, by omega⟩)⟩
      · exact BZOK.setInt (Or.inr ⟨b, o, rfl, hb, hroom, hcap⟩) b (o + n) x
      · obtain ⟨⟨y, hy⟩, _⟩ := hroom n (by omega)
        rw [hy]; rfl
    · have holds : ∀ j v, (byteVals X n)[j]? = some v → W.cell? ((⟨b, o, none⟩ : Addr).add j) = some v := fun j v h => by
        obtain ⟨hj, rfl⟩ := byteVals_get X n j v h
        have := hX' j hj
        by_cases h0 : j = 0
        · subst h0; simpa [Addr.add] using this
        · simpa [Addr.add, h0] using this
      have hrun := run_append_grow (P := Tryz.prog) W 100 ty 5 i0 (.int .u8 0) Tryz.underlying100 hi hz0 ⟨b, o, none⟩ n c (byteVals X n) (by rw [byteVals_length, hz1, Nat.mul_one]) holds ad 1 1 [.int .u8 x] (by rw [hz1]; rfl) hnews (by omega) (by omega)
        (by rw [hz2]; exact growslice_fits (by omega) (by omega))
      have hg := grownCap_ge W (n + 1) c 5 (by omega)
      have hcat : (byteVals X n).toArray ++ [Value.int .u8 x].toArray = (byteVals (upd X n x) (n + 1)).toArray := by
        unfold byteVals
        rw [List.range_succ, List.map_append]
        simp only [List.map_cons, List.map_nil, upd_same]
        rw [← List.append_toArray]
        congr 2
        apply List.map_congr_left
        intro i hi'
        rw [upd_other X x (by have := List.mem_range.1 hi'; omega)]
      rw [show ((Value.int .u8 0).cells) = #[Value.int .u8 0] from rfl, zeroCells_byte, hcat] at hrun
      have hw := new_bytes W.drew (upd X n x) (n + 1) (grownCap W (n + 1) c 5 - (n + 1))
      refine ⟨_, _, _, hrun, by omega, Or.inr ⟨_, _, rfl, PB.new W.drew _ _, ?_, hg.2⟩, Or.inr ⟨_, _, rfl, hw.1⟩, Or.inr ⟨_, _, rfl, Nat.le_refl _⟩, chg_drew_alloc _ _ _⟩
      have := hw.2
      rwa [show n + 1 + (grownCap W (n + 1) c 5 - (n + 1)) = grownCap W (n + 1) c 5 by omega] at this
theorem wpList_append_byte {ops : Array Oper} {rest : List Oper} {o : Oper} {act : Act} {w : World} {Q : Exit → Act → World → Prop} (hgd : o.guard = none) (s x : Operand)
    (ho : o.op = .call { callee := .builtin .append, args := #[s, x], argTypes := #[100, 100] })
    (a : Option Addr) (n c : Nat) (X : Nat → Int) (y : Int) (ad : Addr) (hs : act.eval s = .slice a n c) (hx : act.eval x = .slice (some ad) 1 1)
    (hz : BZOK w a c) (hr : BRd w a n X) (hnc : n ≤ c) (hn : n < 1099511627776) (hy : w.cell? ad = some (.int .u8 y))
    (h : ∀ a' c' w', BAppRes w a n c X y a' c' w' → wpList Tryz.prog ops Q rest (act.put o.dst (.slice a' (n + 1) c')) w') : wpList Tryz.prog ops Q (o :: rest) act w :=
  wpList_plain hgd fun K hK => by
    obtain ⟨a', c', w', hrun, h2⟩ := run_append_byte a n c X y w hz hr hnc hn ad hy o.type
    unfold Oper.wp execOp
    simp only [ho, resolve, invoke, builtin, Sem.run_bind, Sem.run_pure, Result.andThen_ok, List.map_toArray, List.map_cons, List.map_nil, hs, hx, hrun]
    exact hK _ _ (h a' c' w' h2)
theorem bytes_setCells (b o n : Nat) (X : Nat → Int) (w : World) (h : ∀ j, j < n → (w.cell? ⟨b, o + j, none⟩).isSome = true) : BWords (w.setCells b o (byteVals X n)) b o n X := fun i hi => by
  have := World.cell?_setCells_in b (byteVals X n) o w (fun j hj => h j (by rwa [byteVals_length] at hj)) i (by rw [byteVals_length]; exact hi)
  rw [this]
  simp [byteVals]
theorem broom_setCells (b o n : Nat) (X : Nat → Int) (b' o' m : Nat) (w : World) (h : BRoom w b' o' m) : BRoom (w.setCells b o (byteVals X n)) b' o' m := by
  have key : ∀ (l : List Value) (o : Nat) (w : World), (∀ v ∈ l, ∃ x : Int, v = .int .u8 x) → BRoom w b' o' m → BRoom (w.setCells b o l) b' o' m := by
    intro l
    induction l with
    | nil => intro o w _ h; exact h
    | cons v r ih =>
      intro o w hv h
      obtain ⟨x, rfl⟩ := hv v (by simp)
      exact ih (o + 1) _ (fun u hu => hv u (by simp [hu])) (h.setInt b o x)
  refine key _ _ _ (fun v hv => ?_) h
  simp only [byteVals, List.mem_map] at hv
  obtain ⟨i, _, rfl⟩ := hv
  exact ⟨_, rfl⟩
theorem make_here (b o zl zc m : Nat) (w : World) (hm : m ≤ zc) (hc : zc < 9223372036854775808) :
    Calls Tryz.prog 139 #[.slice (some ⟨b, o, none⟩) zl zc, .int .i64 (m : Int)] w fun e w' => e = .returned (.slice (some ⟨b, o, none⟩) m zc) ∧ w' = w := by
  have d1 : decide ((m : Int) ≤ (zc : Int)) = true := by simp; omega
  have d2 : (0 : Int) ≤ (m : Int) := by omega
  have d3 : (m : Int) ≤ (zc : Int) := by omega
  go_enter Tryz.func139, Tryz.ntmps139
  go_wp2
  go_ret
  exact ⟨rfl, rfl⟩
def DivWHere (w : World) (a : Option Addr) (c : Nat) (v y : Int) (e : Ending) (w' : World) : Prop :=
  ∃ n X, e = .returned (.tuple #[.slice a n c, .int .u64 (v % y)]) ∧ n ≤ c ∧ ZOK w' a c ∧ Rd w' a n X ∧ WF X n ∧ Norm X n ∧ val X n = v / y ∧ Chg (zAddr a c) w w'
set_option maxHeartbeats 4000000 in
theorem divW_here (b o xn c : Nat) (X : Nat → Int) (y : Int) (w : World) (hz : ZOK w (some ⟨b, o, none⟩) c) (hx : NatIn w (some ⟨b, o, none⟩) xn c X) (hnx : Norm X xn) (hn0 : 0 < xn) (hy0 : 1 < y) (hy1 : y < 18446744073709551616) :
    Calls Tryz.prog 155 #[.slice (some ⟨b, o, none⟩) xn c, .slice (some ⟨b, o, none⟩) xn c, .int .u64 y] w (DivWHere w (some ⟨b, o, none⟩) c (val X xn) y) := by
  have Hx := Lib.hid hx
  have Hnx := Lib.hid hnx
  have hxn := hx.small
  have hyb : (y == 0) = false := by simp; omega
  have hyb1 : (y == 1) = false := by simp; omega
  have hxb : ((xn : Int) == 0) = false := by simp; omega
  have hcap := hz.cap
  have hle := hx.le
  obtain ⟨bx, ox, e, hX⟩ := hx.words hn0
  injection e with e; injection e with e1 e2; subst e1; subst e2
  obtain ⟨b', o', e, hb1, hroom⟩ := hz.room (by omega)
  injection e with e; injection e with e1 e2; subst e1; subst e2
  have HX := Lib.hid (And.intro hX (And.intro hb1 hroom))
  clear hx hnx hX hroom hb1 hz
  go_enter Tryz.func155, Tryz.ntmps155
  go_wp2_with fail
  refine (make_here b o xn c xn w hle hcap).mono ?_
  rintro e w1 ⟨rfl, rfl⟩
  go_wp2_with fail
  refine (divWVW_any b o b o xn c c X y _ (by omega) (by omega) HX.out.1 Hx.out.wf (HX.out.2.2.le hle) (by unfold Bwd; omega) (by omega) hy1).mono ?_
  rintro e w2 ⟨r, rfl, Z, q1, q2, q3, q4, q5⟩
  have HQ := Lib.hid (And.intro q1 (And.intro q2 (And.intro q3 (divw_split q4.1 q4.2 q5))))
  clear q1 q2 q3 q4 q5
  go_wp2_with fail
  refine (norm_any (some ⟨b, o, none⟩) xn c Z _ (Or.inr ⟨b, o, rfl, HQ.out.2.1⟩) hle hcap).mono ?_
  rintro e w3 ⟨i, rfl, n1, n2, n3, rfl⟩
  have HN := Lib.hid (And.intro n1 (And.intro n2 n3))
  clear n1 n2 n3
  go_wp2
  go_ret2
  obtain ⟨q1, q2, q3, q4, q5⟩ := HQ.out
  obtain ⟨n1, n2, n3⟩ := HN.out
  obtain ⟨x1, x2, x3⟩ := HX.out
  refine ⟨i, Z, by rw [← q5]; rfl, by omega, Or.inr ⟨b, o, rfl, x2.chg q1, room_after x3 hle q1 q2, hcap⟩, Or.inr ⟨b, o, rfl, q2.le n1⟩, q3.le n1, n3, ?_, q1.mono (fun bb oo hbb ⟨e1, e2, e3⟩ => ⟨o, by rw [e1], e2, by omega⟩)⟩
  rw [← val_top n1 n2]; exact q4
end Go.Proofs.YtmgfajamanakcaaGreatDoor
