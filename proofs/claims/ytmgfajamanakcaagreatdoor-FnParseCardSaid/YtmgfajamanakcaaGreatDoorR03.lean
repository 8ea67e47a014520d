/- Part of the proof of FnParse: what the functions that it reaches do, as contracts. Conditions: those that each theorem names. -/
import Derived.Test.YtmgfajamanakcaaGreatDoorR02
import Derived.ArgAppend
import Derived.Laws.IdiomCopy
import Derived.BigRegion
import Derived.Deep.DeepCutAuto
import Derived.Deep.CutBlock
namespace Go.Proofs.YtmgfajamanakcaaGreatDoor
set_option linter.unusedVariables false
set_option linter.unusedSimpArgs false
open Go.RowKit
set_option maxRecDepth 100000
def AppRes (W : World) (a : Option Addr) (n c : Nat) (X : Nat → Int) (x : Int) (a' : Option Addr) (c' : Nat) (W' : World) : Prop :=
  n + 1 ≤ c' ∧ ZOK W' a' c' ∧ Rd W' a' (n + 1) (upd X n x) ∧ Home W a c a' c' ∧ Chg (zAddr a c) W W'
def wordVals (X : Nat → Int) (n : Nat) : List Value := (List.range n).map fun i => .int .u64 (X i)
theorem wordVals_length (X : Nat → Int) (n : Nat) : (wordVals X n).length = n := by simp [wordVals]
theorem wordVals_get (X : Nat → Int) (n j : Nat) (v : Value) (h : (wordVals X n)[j]? = some v) : j < n ∧ v = .int .u64 (X j) := by
  unfold wordVals at h
  rw [List.getElem?_map] at h
  by_cases hj : j < n
  · rw [List.getElem?_range hj] at h
    exact ⟨hj, by simpa using h.symm⟩
  · rw [List.getElem?_eq_none (by simpa using hj)] at h; cases h
theorem zeroCells_word (k : Nat) : Builtin.zeroCells #[.int .u64 0] k = Array.replicate k (.int .u64 0) := by
  apply Array.ext
  · simp [Builtin.zeroCells]
  · intro i h1 h2
    simp [Builtin.zeroCells, Nat.mod_one]
theorem new_words (w : World) (X : Nat → Int) (n k : Nat) :
    Words (w.alloc (.cells ((wordVals X n).toArray ++ Array.replicate k (.int .u64 0)) 153)) w.heap.size 0 n X ∧ Room (w.alloc (.cells ((wordVals X n).toArray ++ Array.replicate k (.int .u64 0)) 153)) w.heap.size 0 (n + k) := by
  have hget : ∀ i, i < n → ((wordVals X n).toArray ++ Array.replicate k (Value.int .u64 0))[i]? = some (.int .u64 (X i)) := fun i hi => by
    rw [Array.getElem?_append_left (by simpa [wordVals] using hi)]
    simp [wordVals, hi]
  have hget2 : ∀ i, n ≤ i → i < n + k → ((wordVals X n).toArray ++ Array.replicate k (Value.int .u64 0))[i]? = some (.int .u64 0) := fun i h1 h2 => by
    rw [Array.getElem?_append_right (by simpa [wordVals] using h1)]
    simp only [List.size_toArray, wordVals_length]
    rw [Array.getElem?_replicate, if_pos (by omega)]
  refine ⟨fun i hi => ?_, fun i hi => ⟨?_, frozen?_alloc_new w _ _ _⟩⟩
  · rw [Nat.zero_add]; exact cell?_alloc_new w _ _ _ _ (hget i hi)
  · rw [Nat.zero_add]
    by_cases h : i < n
    · exact ⟨_, cell?_alloc_new w _ _ _ _ (hget i h)⟩
    · exact ⟨_, cell?_alloc_new w _ _ _ _ (hget2 i (by omega) hi)⟩
theorem grownCap_ge (w : World) (need old : Nat) (e : TypeId) (h : need < 9223372036854775808) : need ≤ grownCap w need old e ∧ grownCap w need old e < 9223372036854775808 := by
  have e1 : grownCap w need old e = need + (w.tape w.drawn (.appendCap need old e)) % (2 ^ 63 - need) := rfl
  rw [e1]
  have := Nat.mod_lt (w.tape w.drawn (.appendCap need old e)) (show 0 < 2 ^ 63 - need by omega)
  omega
theorem chg_drew_alloc (W : World) (o : Obj) (Z : Zone) : Chg Z W (W.drew.alloc o) := ((Chg.refl Z W).drew).alloc o
theorem run_append_word (a : Option Addr) (n c : Nat) (X : Nat → Int) (x : Int) (W : World) (hz : ZOK W a c) (hr : Rd W a n X) (hnc : n ≤ c) (hn : n < 1099511627776) (ad : Addr) (hx : W.cell? ad = some (.int .u64 x)) (ty : TypeId) :
    ∃ a' c' W', (Builtin.append_ #[120, 120] ty #[.slice a n c, .slice (some ad) 1 1]).run Tryz.prog W = .ok (.slice a' (n + 1) c') W' ∧ AppRes W a n c X x a' c' W' := by
  obtain ⟨i0, hi, hz0, hz1, hz2⟩ := info_parts info153
  have hnews : ∀ j v, [Value.int .u64 x][j]? = some v → W.cell? (ad.add j) = some v := fun j v h => by
    cases j with
    | zero => simp at h; subst h; simpa [Addr.add] using hx
    | succ j => simp at h
  have hupd : ∀ i, i < n → X i = upd X n x i := fun i hi => (upd_other X x (by omega)).symm
  rcases hz with ⟨rfl, rfl⟩ | ⟨b, o, rfl, hb, hroom, hcap⟩
  · obtain rfl : n = 0 := by omega
    have hrun := run_append_nil (P := Tryz.prog) W 120 ty 153 i0 (.int .u64 0) Tryz.underlying120 hi hz0 ad 1 1 [.int .u64 x] (by rw [hz1]; rfl) hnews (by omega) (by omega) (by rw [hz2]; omega)
    have hg := grownCap_ge W 1 0 153 (by omega)
    have hw := new_words W.drew (fun _ => x) 1 (grownCap W 1 0 153 - 1)
    rw [show ((Value.int .u64 0).cells) = #[Value.int .u64 0] from rfl, zeroCells_word] at hrun
    refine ⟨_, _, _, hrun, by omega, Or.inr ⟨_, _, rfl, PB.new W.drew _ _, ?_, hg.2⟩, Or.inr ⟨_, _, rfl, ?_⟩, Or.inr ⟨_, _, rfl, Nat.le_refl _⟩, chg_drew_alloc _ _ _⟩
    · have := hw.2
      rwa [show 1 + (grownCap W 1 0 153 - 1) = grownCap W 1 0 153 by omega] at this
    · exact hw.1.congr (fun i hi => by obtain rfl : i = 0 := by omega
                                       exact (upd_same X 0 x).symm)
  · have hX : n = 0 ∨ Words W b o n X := by
      rcases hr with h | ⟨b', o', e, hw⟩
      · exact Or.inl h
      · injection e with e; injection e with e1 e2; subst e1; subst e2; exact Or.inr hw
    have hX' : Words W b o n X := by
      rcases hX with h | h
      · intro i hi; omega
      · exact h
    by_cases hfit : n + 1 ≤ c
    · have hrun := run_append_room_cells (P := Tryz.prog) W 120 ty 153 i0 Tryz.underlying120 hi b o n c ad 1 1 [.int .u64 x] (by rw [hz1]; rfl) hnews (fun u hu => by simp at hu; subst hu; rfl) hfit
        (fun j hj => by
          obtain rfl : j = 0 := by simp at hj; exact hj
          rw [hz1, Nat.mul_one, Nat.add_zero]
          obtain ⟨⟨y, hy⟩, _⟩ := hroom n (by omega)
          rw [hy]; rfl)
        (fun j hj => by
          obtain rfl : j = 0 := by simp at hj; exact hj
          rw [hz1, Nat.mul_one, Nat.add_zero]
          exact (hroom n (by omega)).2)
      rw [hz1, Nat.mul_one] at hrun
      have hwd : W.setCells b (o + n) [.int .u64 x] = W.setCell ⟨b, o + n, none⟩ (.int .u64 x) := rfl
      rw [hwd] at hrun
      refine ⟨_, _, _, hrun, hfit, ?_, Or.inr ⟨b, o, rfl, hX'.snoc ?_⟩, Or.inl ⟨rfl, rfl⟩, (Chg.refl _ _).setCell b (o + n) _ (fun _ => ⟨o, rfl, by omega, by omega⟩)⟩
      · exact ZOK.setInt (Or.inr ⟨b, o, rfl, hb, hroom, hcap⟩) b (o + n) x
      · obtain ⟨⟨y, hy⟩, _⟩ := hroom n (by omega)
        rw [hy]; rfl
    · have holds : ∀ j v, (wordVals X n)[j]? = some v → W.cell? ((⟨b, o, none⟩ : Addr).add j) = some v := fun j v h => by
        obtain ⟨hj, rfl⟩ := wordVals_get X n j v h
        have := hX' j hj
        by_cases h0 : j = 0
        · subst h0; simpa [Addr.add] using this
        · simpa [Addr.add, h0] using this
      have hrun := run_append_grow (P := Tryz.prog) W 120 ty 153 i0 (.int .u64 0) Tryz.underlying120 hi hz0 ⟨b, o, none⟩ n c (wordVals X n) (by rw [wordVals_length, hz1, Nat.mul_one]) holds ad 1 1 [.int .u64 x] (by rw [hz1]; rfl) hnews (by omega) (by omega)
        (by rw [hz2]; exact growslice_fits (by omega) (by omega))
      have hg := grownCap_ge W (n + 1) c 153 (by omega)
      have hcat : (wordVals X n).toArray ++ [Value.int .u64 x].toArray = (wordVals (upd X n x) (n + 1)).toArray := by
        unfold wordVals
        rw [List.range_succ, List.map_append]
        simp only [List.map_cons, List.map_nil, upd_same]
        rw [← List.append_toArray]
        congr 2
        apply List.map_congr_left
        intro i hi'
        rw [upd_other X x (by have := List.mem_range.1 hi'; omega)]
      rw [show ((Value.int .u64 0).cells) = #[Value.int .u64 0] from rfl, zeroCells_word, hcat] at hrun
      have hw := new_words W.drew (upd X n x) (n + 1) (grownCap W (n + 1) c 153 - (n + 1))
      refine ⟨_, _, _, hrun, by omega, Or.inr ⟨_, _, rfl, PB.new W.drew _ _, ?_, hg.2⟩, Or.inr ⟨_, _, rfl, hw.1⟩, Or.inr ⟨_, _, rfl, Nat.le_refl _⟩, chg_drew_alloc _ _ _⟩
      have := hw.2
      rwa [show n + 1 + (grownCap W (n + 1) c 153 - (n + 1)) = grownCap W (n + 1) c 153 by omega] at this
theorem wpList_append_word {ops : Array Oper} {rest : List Oper} {o : Oper} {act : Act} {w : World} {Q : Exit → Act → World → Prop} (hgd : o.guard = none) (s x : Operand)
    (ho : o.op = .call { callee := .builtin .append, args := #[s, x], argTypes := #[120, 120] })
    (a : Option Addr) (n c : Nat) (X : Nat → Int) (y : Int) (ad : Addr) (hs : act.eval s = .slice a n c) (hx : act.eval x = .slice (some ad) 1 1)
    (hz : ZOK w a c) (hr : Rd w a n X) (hnc : n ≤ c) (hn : n < 1099511627776) (hy : w.cell? ad = some (.int .u64 y))
    (h : ∀ a' c' w', AppRes w a n c X y a' c' w' → wpList Tryz.prog ops Q rest (act.put o.dst (.slice a' (n + 1) c')) w') : wpList Tryz.prog ops Q (o :: rest) act w :=
  wpList_plain hgd fun K hK => by
    obtain ⟨a', c', w', hrun, h2⟩ := run_append_word a n c X y w hz hr hnc hn ad hy o.type
    unfold Oper.wp execOp
    simp only [ho, resolve, invoke, builtin, Sem.run_bind, Sem.run_pure, Result.andThen_ok, List.map_toArray, List.map_cons, List.map_nil, hs, hx, hrun]
    exact hK _ _ (h a' c' w' h2)
theorem chg_setCells (b : Nat) : ∀ (vs : List Value) (o : Nat) (w : World), Chg (zRow b o vs.length) w (w.setCells b o vs)
  | [], _, w => Chg.refl _ w
  | v :: r, o, w => by
    have h1 : Chg (zRow b o (v :: r).length) w (w.setCell ⟨b, o, none⟩ v) := (Chg.refl _ _).setCell b o v (fun _ => ⟨rfl, Nat.le_refl _, by simp⟩)
    exact h1.trans (chg_setCells b r (o + 1) _) (fun b' o' _ ⟨e1, e2, e3⟩ => ⟨e1, by omega, by simp; omega⟩)
theorem words_setCells (b o n : Nat) (X : Nat → Int) (w : World) (h : ∀ j, j < n → (w.cell? ⟨b, o + j, none⟩).isSome = true) : Words (w.setCells b o (wordVals X n)) b o n X := fun i hi => by
  have := World.cell?_setCells_in b (wordVals X n) o w (fun j hj => h j (by rwa [wordVals_length] at hj)) i (by rw [wordVals_length]; exact hi)
  rw [this]
  simp [wordVals]
theorem room_setCells (b o n : Nat) (X : Nat → Int) (b' o' m : Nat) (w : World) (h : Room w b' o' m) : Room (w.setCells b o (wordVals X n)) b' o' m := by
  have key : ∀ (l : List Value) (o : Nat) (w : World), (∀ v ∈ l, ∃ x : Int, v = .int .u64 x) → Room w b' o' m → Room (w.setCells b o l) b' o' m := by
    intro l
    induction l with
    | nil => intro o w _ h; exact h
    | cons v r ih =>
      intro o w hv h
      obtain ⟨x, rfl⟩ := hv v (by simp)
      exact ih (o + 1) _ (fun u hu => hv u (by simp [hu])) (h.setInt b o x)
  refine key _ _ _ (fun v hv => ?_) h
  simp only [wordVals, List.mem_map] at hv
  obtain ⟨i, _, rfl⟩ := hv
  exact ⟨_, rfl⟩
theorem size153 : (Tryz.prog.info? 153).map (·.size) = some 1 := by kernel_rfl
theorem run_copy_word (t1 t2 ty : TypeId) (hu : Tryz.prog.underlying t1 = some (.slice 153)) (b o nd cd : Nat) (sa : Option Addr) (ns cs n : Nat) (X : Nat → Int) (W : World) (hn : n = Nat.min ns nd) (hz : Room W b o n) (hr : Rd W sa n X) :
    ∃ W', (Builtin.copy_ #[t1, t2] ty #[.slice (some ⟨b, o, none⟩) nd cd, .slice sa ns cs]).run Tryz.prog W = .ok (.int .i64 n) W' ∧ Chg (zRow b o n) W W' ∧ Words W' b o n X ∧ (∀ b' o' m, Room W b' o' m → Room W' b' o' m) := by
  rcases hr with rfl | ⟨bs, os, rfl, hw⟩
  · exact ⟨W, run_copy_none W t1 t2 ty 153 _ sa nd cd ns cs hu size153 hn.symm, Chg.refl _ _, fun i hi => by omega, fun _ _ _ h => h⟩
  · have hrun := run_copy_cells (P := Tryz.prog) W t1 t2 ty 153 b o nd cd ⟨bs, os, none⟩ ns cs (wordVals X n) hu size153 (by rw [wordVals_length]; exact hn)
      (fun j v h => by
        obtain ⟨hj, rfl⟩ := wordVals_get X n j v h
        have := hw j hj
        by_cases h0 : j = 0
        · subst h0; simpa [Addr.add] using this
        · simpa [Addr.add, h0] using this)
      (fun j hj => by
        obtain ⟨⟨y, hy⟩, _⟩ := hz j (by rwa [wordVals_length] at hj)
        rw [hy]; rfl)
      (fun j hj => (hz j (by rwa [wordVals_length] at hj)).2)
      (fun v hv => by
        simp only [wordVals, List.mem_map] at hv
        obtain ⟨i, _, rfl⟩ := hv
        rfl)
    rw [wordVals_length] at hrun
    refine ⟨_, hrun, ?_, words_setCells b o n X W (fun j hj => ?_), fun _ _ _ h => room_setCells b o n X _ _ _ _ h⟩
    · have := chg_setCells b (wordVals X n) o W
      rwa [wordVals_length] at this
    · obtain ⟨⟨y, hy⟩, _⟩ := hz j hj
      rw [hy]; rfl
theorem wpList_copy_word {ops : Array Oper} {rest : List Oper} {op : Oper} {act : Act} {w : World} {Q : Exit → Act → World → Prop} (hgd : op.guard = none) (d s : Operand) (t1 t2 : TypeId)
    (ho : op.op = .call { callee := .builtin .copy, args := #[d, s], argTypes := #[t1, t2] }) (hu : Tryz.prog.underlying t1 = some (.slice 153))
    (b o nd cd : Nat) (sa : Option Addr) (ns cs n : Nat) (X : Nat → Int) (hd : act.eval d = .slice (some ⟨b, o, none⟩) nd cd) (hs : act.eval s = .slice sa ns cs)
    (hn : n = Nat.min ns nd) (hz : Room w b o n) (hr : Rd w sa n X)
    (h : ∀ w', Chg (zRow b o n) w w' ∧ Words w' b o n X ∧ (∀ b' o' m, Room w b' o' m → Room w' b' o' m) → wpList Tryz.prog ops Q rest (act.put op.dst (.int .i64 n)) w') : wpList Tryz.prog ops Q (op :: rest) act w :=
  wpList_plain hgd fun K hK => by
    obtain ⟨w', hrun, h2⟩ := run_copy_word t1 t2 op.type hu b o nd cd sa ns cs n X w hn hz hr
    unfold Oper.wp execOp
    simp only [ho, resolve, invoke, builtin, Sem.run_bind, Sem.run_pure, Result.andThen_ok, List.map_toArray, List.map_cons, List.map_nil, hd, hs, hrun]
    exact hK _ _ (h w' h2)
theorem wpList_copy_zero {ops : Array Oper} {rest : List Oper} {op : Oper} {act : Act} {w : World} {Q : Exit → Act → World → Prop} (hgd : op.guard = none) (d s : Operand) (t1 t2 : TypeId)
    (ho : op.op = .call { callee := .builtin .copy, args := #[d, s], argTypes := #[t1, t2] }) (hu : Tryz.prog.underlying t1 = some (.slice 153))
    (da : Option Addr) (nd cd : Nat) (sa : Option Addr) (ns cs : Nat) (hd : act.eval d = .slice da nd cd) (hs : act.eval s = .slice sa ns cs)
    (hn : Nat.min ns nd = 0) (h : wpList Tryz.prog ops Q rest (act.put op.dst (.int .i64 0)) w) : wpList Tryz.prog ops Q (op :: rest) act w :=
  wpList_plain hgd fun K hK => by
    have hrun := run_copy_none (P := Tryz.prog) w t1 t2 op.type 153 da sa nd cd ns cs hu size153 hn
    unfold Oper.wp execOp
    simp only [ho, resolve, invoke, builtin, Sem.run_bind, Sem.run_pure, Result.andThen_ok, List.map_toArray, List.map_cons, List.map_nil, hd, hs, hrun]
    exact hK _ _ h
def SetRes (w : World) (az : Option Addr) (zc n : Nat) (X : Nat → Int) (e : Ending) (w' : World) : Prop :=
  ∃ a c, e = .returned (.slice a n c) ∧ n ≤ c ∧ ZOK w' a c ∧ Rd w' a n X ∧ Home w az zc a c ∧ Chg (zAddr az zc) w w'
set_option maxHeartbeats 2000000 in
theorem set_any (az ax : Option Addr) (zl zc xn xc : Nat) (X : Nat → Int) (w : World) (hz : ZOK w az zc) (hx : Rd w ax xn X) (hxc : xn ≤ xc) (hxn : xn < 1099511627776) :
    Calls Tryz.prog 77 #[.slice az zl zc, .slice ax xn xc] w (SetRes w az zc xn X) := by
  have Hz := Lib.hid hz
  have Hx := Lib.hid hx
  clear hz hx
  go_enter Tryz.func77, Tryz.ntmps77
  go_wp2_with fail
  refine (make_any az zl zc xn _ Hz.out (by omega)).mono ?_
  rintro e w1 ⟨a, c, rfl, h1, h2, h3, h4⟩
  have H := Lib.hid (And.intro h1 (And.intro h2 (And.intro h3 h4)))
  clear h1 h2 h3 h4
  by_cases h0 : xn = 0
  · subst h0
    go_wp2_with (with_reducible refine wpList_copy_zero rfl (.tmp 9) (.tmp 10) 120 120 rfl Tryz.underlying120 a 0 c ax 0 xc rfl rfl rfl ?_)
    go_ret
    exact ⟨a, c, rfl, Nat.zero_le _, H.out.2.1, Or.inl rfl, H.out.2.2.1, H.out.2.2.2.mono (fun _ _ _ h => h.elim)⟩
  · obtain ⟨b, o, rfl, hb, hroom⟩ := H.out.2.1.room (by have := H.out.1; omega)
    have Hx1 : Hid (Rd w1 ax xn X) := by
      rcases Hx.out with h | ⟨bx, ox, e, hw⟩
      · exact Or.inl h
      · exact Or.inr ⟨bx, ox, e, hw.chg H.out.2.2.2 (fun _ _ h => h.elim)⟩
    have Hroom := Lib.hid hroom
    clear hroom
    go_wp2_with (with_reducible refine wpList_copy_word rfl (.tmp 9) (.tmp 10) 120 120 rfl Tryz.underlying120 b o xn c ax xn xc xn X rfl rfl (Nat.min_self xn).symm (Hroom.out.le (by have := H.out.1; omega)) Hx1.out ?_; rintro w2 hw2; have HW := Lib.hid hw2; clear hw2)
    go_ret
    obtain ⟨q1, q2, q3⟩ := HW.out
    refine ⟨some ⟨b, o, none⟩, c, rfl, H.out.1, Or.inr ⟨b, o, rfl, hb.chg q1, q3 _ _ _ Hroom.out, H.out.2.1.cap⟩, Or.inr ⟨b, o, rfl, q2⟩, H.out.2.2.1, ?_⟩
    exact (H.out.2.2.2.mono (Z' := zAddr az zc) (fun _ _ _ h => h.elim)).trans q1 (fun bb oo hbb ⟨e1, e2, e3⟩ => H.out.2.2.1.zone bb oo hbb ⟨o, by rw [e1], e2, by have := H.out.1; omega⟩)
theorem and63 (s : Nat) (h : s < 64) : bits BinOp.and IntKind.u64 (s : Int) 63 = s := by
  have h1 : (BitVec.ofInt 64 63).toNat = 2 ^ 6 - 1 := by decide
  have key : (BitVec.ofInt 64 (s : Int) &&& BitVec.ofInt 64 63).toNat = ((s : Int) % ((2 ^ 64 : Nat) : Int)).toNat % 2 ^ 6 := by
    rw [BitVec.toNat_and, BitVec.toNat_ofInt, h1, Nat.and_two_pow_sub_one_eq_mod]
  show IntKind.u64.wrap ((BitVec.ofInt 64 (s : Int) &&& BitVec.ofInt 64 63).toNat : Nat) = _
  rw [key, IntKind.wrap_u64]
  omega
theorem or_nat (a b s : Nat) (ha : a < 2 ^ (64 - s)) (hs : s < 64) (hb : b < 2 ^ s) : bits BinOp.or IntKind.u64 (a : Int) ((b * 2 ^ (64 - s) : Nat) : Int) = ((a + b * 2 ^ (64 - s) : Nat) : Int) := by
  have hp : 2 ^ s * 2 ^ (64 - s) = 2 ^ 64 := by rw [← Nat.pow_add]; congr 1; omega
  have hp1 : 0 < 2 ^ (64 - s) := Nat.pow_pos (by omega)
  have hlt : a + b * 2 ^ (64 - s) < 2 ^ 64 := by
    have : (b + 1) * 2 ^ (64 - s) ≤ 2 ^ s * 2 ^ (64 - s) := Nat.mul_le_mul_right _ hb
    rw [hp, Nat.add_mul] at this
    omega
  have h1 : (BitVec.ofInt 64 (a : Int)).toNat = a := by rw [BitVec.toNat_ofInt]; omega
  have h2 : (BitVec.ofInt 64 ((b * 2 ^ (64 - s) : Nat) : Int)).toNat = b * 2 ^ (64 - s) := by rw [BitVec.toNat_ofInt]; omega
  have key : (BitVec.ofInt 64 (a : Int) ||| BitVec.ofInt 64 ((b * 2 ^ (64 - s) : Nat) : Int)).toNat = a + b * 2 ^ (64 - s) := by
    rw [BitVec.toNat_or, h1, h2, Nat.or_comm, ← Nat.shiftLeft_eq, ← Nat.shiftLeft_add_eq_or_of_lt ha]
    omega
  show IntKind.u64.wrap ((BitVec.ofInt 64 (a : Int) ||| BitVec.ofInt 64 ((b * 2 ^ (64 - s) : Nat) : Int)).toNat : Nat) = _
  rw [key, IntKind.wrap_u64]
  omega
theorem wrap_shl (y : Nat) (s : Nat) (hs : s < 64) : IntKind.u64.wrap ((y : Int) * 2 ^ (64 - s)) = (((y % 2 ^ s) * 2 ^ (64 - s) : Nat) : Int) := by
  have hp : 2 ^ s * 2 ^ (64 - s) = 2 ^ 64 := by rw [← Nat.pow_add]; congr 1; omega
  rw [IntKind.wrap_u64, ← Nat.mul_mod_mul_right, hp]
  have : ((y : Int) * 2 ^ (64 - s)) = ((y * 2 ^ (64 - s) : Nat) : Int) := by push_cast; rfl
  rw [this]; omega
theorem shr_or {x y : Int} {s : Nat} (hx : U64 x) (hy : U64 y) (hs : s < 64) : bits BinOp.or IntKind.u64 (x / 2 ^ s) (IntKind.u64.wrap (y * 2 ^ (64 - s))) = x / 2 ^ s + y % 2 ^ s * 2 ^ (64 - s) := by
  obtain ⟨a, rfl⟩ := Int.eq_ofNat_of_zero_le hx.1
  obtain ⟨b, rfl⟩ := Int.eq_ofNat_of_zero_le hy.1
  have hp : 2 ^ s * 2 ^ (64 - s) = 2 ^ 64 := by rw [← Nat.pow_add]; congr 1; omega
  have ha : a / 2 ^ s < 2 ^ (64 - s) := by
    rw [Nat.div_lt_iff_lt_mul (Nat.pow_pos (by omega)), Nat.mul_comm, hp]
    have := hx.2; omega
  rw [wrap_shl b s hs]
  have := or_nat (a / 2 ^ s) (b % 2 ^ s) s ha hs (Nat.mod_lt _ (Nat.pow_pos (by omega)))
  simp only [Int.natCast_ediv, Int.natCast_emod, Int.natCast_mul, Int.natCast_add, Int.natCast_pow] at this ⊢
  exact this
theorem U64_shr {x : Int} {s : Nat} (hx : U64 x) : U64 (x / 2 ^ s) := by
  have h : (0:Int) < 2 ^ s := Int.pow_pos (by omega)
  refine ⟨Int.ediv_nonneg hx.1 (by omega), Int.lt_of_le_of_lt (Int.ediv_le_self _ hx.1) hx.2⟩
theorem U64_or {x y : Int} {s : Nat} (hx : U64 x) (hy : U64 y) (hs : s < 64) : U64 (x / 2 ^ s + y % 2 ^ s * 2 ^ (64 - s)) := by
  rw [← shr_or hx hy hs]
  exact ⟨by simp only [bits]; rw [IntKind.wrap_u64]; omega, by simp only [bits]; rw [IntKind.wrap_u64]; omega⟩
theorem rsh_step {X Z : Nat → Int} {x y : Int} {k s : Nat} (hs : s < 64) (h : 2 ^ s * val Z k + X 0 % 2 ^ s = val X k + (X k % 2 ^ s) * BB ^ k) (hx : X k = x) (hy : X (k + 1) = y) (hz : Z k = x / 2 ^ s + y % 2 ^ s * 2 ^ (64 - s)) :
    2 ^ s * val Z (k + 1) + X 0 % 2 ^ s = val X (k + 1) + (X (k + 1) % 2 ^ s) * BB ^ (k + 1) := by
  have hp : (2:Int) ^ s * 2 ^ (64 - s) = BB := by rw [← Int.pow_add, show s + (64 - s) = 64 by omega]; rfl
  have hd := Int.mul_ediv_add_emod x (2 ^ s)
  simp only [val, hx, hy, hz, BB_succ] at h ⊢
  grind
theorem rsh_last {X Z : Nat → Int} {x : Int} {k s : Nat} (h : 2 ^ s * val Z k + X 0 % 2 ^ s = val X k + (X k % 2 ^ s) * BB ^ k) (hx : X k = x) (hz : Z k = x / 2 ^ s) :
    2 ^ s * val Z (k + 1) + X 0 % 2 ^ s = val X (k + 1) := by
  have hd := Int.mul_ediv_add_emod x (2 ^ s)
  simp only [val, hx, hz] at h ⊢
  grind
def RshPost (w : World) (bz oz n : Nat) (X : Nat → Int) (s : Nat) (_ : Int) (w' : World) : Prop :=
  ∃ Z, Chg (zRow bz oz n) w w' ∧ Words w' bz oz n Z ∧ WF Z n ∧ 2 ^ s * val Z n + X 0 % 2 ^ s = val X n
set_option maxHeartbeats 2000000 in
theorem rshVU_g_any (bx ox bz oz n cx cz : Nat) (X : Nat → Int) (s : Nat) (w : World) (hn : n < 4611686018427387904) (hn1 : 0 < n) (hX : Words w bx ox n X) (hXw : WF X n) (hz : Room w bz oz n) (hf : Fwd bx ox bz oz n) (hs0 : 0 < s) (hs : s < 64) :
    Calls Tryz.prog 233 #[.slice (some ⟨bz, oz, none⟩) n cz, .slice (some ⟨bx, ox, none⟩) n cx, .int .u64 s] w (OneWord (RshPost w bz oz n X s)) := by
  have hm1 := and63 s hs
  have hm2 := and63 (64 - s) (by omega)
  have hm3 : ((64 - s : Nat) : Int) = 64 - (s : Int) := by omega
  rw [hm3] at hm2
  have hsb : ((s : Int) == 0) = false := by simp; omega
  have hnb : ((n : Int) == 0) = false := by simp; omega
  have hx0 := hX 0 (by omega)
  simp only [Nat.add_zero] at hx0
  have HX := Lib.hid hX
  have HXw := Lib.hid hXw
  have Hz := Lib.hid hz
  have Hf := Lib.hid hf
  clear hX hXw hz hf
  clear hm3
  go_enter Tryz.func233, Tryz.ntmps233
  go_wp2_with fail
  go_loopw [8] (fun si wr => ∃ (k : Nat) (Z : Nat → Int), si = .int .i64 (k + 1) ∧ k + 1 ≤ n ∧ Hid (Chg (zRow bz oz k) w wr ∧ Words wr bz oz k Z ∧ WF Z k ∧ 2 ^ s * val Z k + X 0 % 2 ^ s = val X k + (X k % 2 ^ s) * BB ^ k)) (fun si _ => n - (intOf si).toNat)
  case atStart => exact ⟨0, fun _ => 0, rfl, by omega, Chg.refl _ _, fun i hi => by omega, fun i hi => by omega, by simp [val]⟩
  case round =>
    obtain ⟨k, Z, rfl, hk, H⟩ := hrel
    have hcx := fwd_keep Hf.out hk H.out.1 (HX.out k hk)
    obtain ⟨⟨zk, hzk0⟩, hzf0⟩ := Hz.out k hk
    have hzk1 := H.out.1.isCell (by rw [hzk0]; rfl)
    obtain ⟨zv, hzk⟩ := Option.isSome_iff_exists.1 hzk1
    have hzf := (H.out.1.frozen hzk0 (oz + k)).trans hzf0
    clear hzk0 hzf0 hzk1
    obtain ⟨xk, hxe⟩ : ∃ x, X k = x := ⟨_, rfl⟩
    rw [hxe] at hcx
    have Hxe := Lib.hid hxe
    have hxw : Hid (U64 xk) := by rw [← hxe]; exact HXw.out k hk
    clear hxe
    by_cases hlt : k + 1 < n
    · have hcy := fwd_keep Hf.out hlt (H.out.1.mono (fun _ _ _ hz => ⟨hz.1, hz.2.1, by have := hz.2.2; omega⟩)) (HX.out (k + 1) hlt)
      obtain ⟨yk, hye⟩ : ∃ x, X (k + 1) = x := ⟨_, rfl⟩
      rw [hye] at hcy
      have Hye := Lib.hid hye
      have hyw : Hid (U64 yk) := by rw [← hye]; exact HXw.out (k + 1) hlt
      clear hye
      go_wp2_with fail
      go_region
      go_wp2
      go_roundw
      case rel =>
        have hv := shr_or hxw.out hyw.out hs
        refine ⟨k + 1, upd Z k (xk / 2 ^ s + yk % 2 ^ s * 2 ^ (64 - s)), by go_num, by omega, ?_⟩
        rw [hv]
        refine ⟨(chg_snoc H.out.1 _).drew, H.out.2.1.snoc (by rw [hzk]; rfl), WF_upd H.out.2.2.1 (U64_or hxw.out hyw.out hs), ?_⟩
        exact rsh_step hs (by rw [val_upd]; exact H.out.2.2.2) Hxe.out Hye.out (upd_same _ _ _)
      case measure => simp [intOf]; omega
    · have hkn : n = k + 1 := by omega
      have hb1 : decide (((k:Int) + 1) < (n : Int)) = false := by simp; omega
      go_wp2_with fail
      go_ret
      refine ⟨_, rfl, upd Z k (xk / 2 ^ s), ?_⟩
      rw [hkn]
      refine ⟨chg_snoc H.out.1 _, H.out.2.1.snoc (by rw [hzk]; rfl), WF_upd H.out.2.2.1 (U64_shr hxw.out), ?_⟩
      exact rsh_last (x := xk) (by rw [val_upd]; exact H.out.2.2.2) Hxe.out (upd_same _ _ _)
theorem rshVU_any (bx ox bz oz n cx cz : Nat) (X : Nat → Int) (s : Nat) (w : World) (hn : n < 4611686018427387904) (hn1 : 0 < n) (hX : Words w bx ox n X) (hXw : WF X n) (hz : Room w bz oz n) (hf : Fwd bx ox bz oz n) (hs0 : 0 < s) (hs : s < 64) :
    Calls Tryz.prog 199 #[.slice (some ⟨bz, oz, none⟩) n cz, .slice (some ⟨bx, ox, none⟩) n cx, .int .u64 s] w (OneWord (RshPost w bz oz n X s)) := by
  have H := Lib.hid (rshVU_g_any bx ox bz oz n cx cz X s w hn hn1 hX hXw hz hf hs0 hs)
  clear hX hXw hz hf
  go_enter Tryz.func199, Tryz.ntmps199
  go_wp2_with fail
  refine H.out.mono ?_
  rintro e w1 ⟨c, rfl, hp⟩
  have Hp := Lib.hid hp
  clear hp
  go_wp2
  go_ret
  exact ⟨c, rfl, Hp.out⟩
theorem fwd_of_home {w : World} {az : Option Addr} {zc bx ox xn b o c q m : Nat} (hh : Home w az zc (some ⟨b, o, none⟩) c) (ha : Apart az zc (some ⟨bx, ox, none⟩) xn) (hb : bx < w.heap.size) (hq : q + m ≤ xn) (hm : m ≤ c) : Fwd bx (ox + q) b o m := by
  rcases hh with ⟨e1, e2⟩ | ⟨b', o', e1, e2⟩
  · rcases ha with e3 | e3
    · rw [← e1] at e3; injection e3 with e3; injection e3 with e3 e4; exact Or.inr (Or.inl (by omega))
    · by_cases hbb : bx = b
      · subst hbb
        refine Or.inr ?_
        by_cases hle : o ≤ ox + q
        · exact Or.inl hle
        · refine Or.inr ?_
          by_cases hgt : ox + q + m ≤ o
          · exact hgt
          · exact absurd ⟨o, e1.symm, by omega, by omega⟩ (e3 bx ox (o - ox) rfl (by omega))
      · exact Or.inl hbb
  · injection e1 with e1; injection e1 with e1; exact Or.inl (by omega)
theorem two64 : (2:Int) ^ 64 = BB := rfl
theorem two_split (s : Nat) : (2:Int) ^ s = BB ^ (s / 64) * 2 ^ (s % 64) := by
  rw [← two64, ← Int.pow_mul, ← Int.pow_add]
  congr 1; omega
theorem val_shr {X : Nat → Int} {n s : Nat} (hX : WF X n) (h : s / 64 ≤ n) : val X n / 2 ^ s = val (fun i => X (s / 64 + i)) (n - s / 64) / 2 ^ (s % 64) := by
  have e := val_add X (s / 64) (n - s / 64)
  rw [show s / 64 + (n - s / 64) = n by omega] at e
  have h0 := val_nonneg (hX.le h)
  have h1 := val_lt (hX.le h)
  rw [two_split, ← Int.ediv_ediv_of_nonneg (Int.le_of_lt (BBn_pos _)), e, Int.add_mul_ediv_left _ _ (by have := BBn_pos (s / 64); omega), Int.ediv_eq_zero_of_lt h0 h1, Int.zero_add]
theorem val_shr_zero {X : Nat → Int} {n s : Nat} (hX : WF X n) (h : n ≤ s / 64) : val X n / 2 ^ s = 0 := by
  have h0 := val_nonneg hX
  have h1 := val_lt hX
  refine Int.ediv_eq_zero_of_lt h0 (Int.lt_of_lt_of_le h1 ?_)
  rw [two_split, show s / 64 = n + (s / 64 - n) by omega, Int.pow_add, Int.mul_assoc]
  have a := BBn_pos n
  have b : (0:Int) < BB ^ (s / 64 - n) * 2 ^ (s % 64) := Int.mul_pos (BBn_pos _) (Int.pow_pos (by omega))
  have := Int.mul_le_mul_of_nonneg_left (c := BB ^ n) (show (1:Int) ≤ BB ^ (s / 64 - n) * 2 ^ (s % 64) by omega) (by omega)
  omega
theorem shr_of_post {v z x0 : Int} {s : Nat} (h : 2 ^ s * z + x0 % 2 ^ s = v) : z = v / 2 ^ s := by
  have hp : (0:Int) < 2 ^ s := Int.pow_pos (by omega)
  have h1 := Int.emod_nonneg x0 (show (2:Int) ^ s ≠ 0 by omega)
  have h2 := Int.emod_lt_of_pos x0 hp
  rw [← h, Int.add_comm, Int.add_mul_ediv_left _ _ (by omega), Int.ediv_eq_zero_of_lt h1 h2]
  omega
theorem room_after {w w' : World} {b o m c : Nat} {Z : Nat → Int} (h : Room w b o c) (hm : m ≤ c) (k : Chg (zRow b o m) w w') (hw : Words w' b o m Z) : Room w' b o c := by
  have h1 : Room w' b o m := hw.room (fun i hi => by
    obtain ⟨⟨z, hz⟩, hf⟩ := h i (by omega)
    rw [k.frozen hz]; exact hf)
  have h2 : Room w' b (o + m) (c - m) := (h.drop m (c - m) (by omega)).chg k (fun i hi ⟨_, _, h3⟩ => by omega)
  have := h1.join h2
  rwa [show m + (c - m) = c by omega] at this
theorem natres_close {w w1 w2 : World} {az : Option Addr} {zc b o c m i : Nat} {Z : Nat → Int} {v : Int}
    (H : m ≤ c ∧ ZOK w1 (some ⟨b, o, none⟩) c ∧ Home w az zc (some ⟨b, o, none⟩) c ∧ Chg zNone w w1 ∧ PB w1 b ∧ Room w1 b o c)
    (k : Chg (zRow b o m) w1 w2) (hw : Words w2 b o m Z) (hwf : WF Z m) (hv : val Z m = v)
    (n1 : i ≤ m) (n2 : ∀ j, i ≤ j → j < m → Z j = 0) (n3 : Norm Z i) : NatRes w az zc v (.returned (.slice (some ⟨b, o, none⟩) i c)) w2 := by
  obtain ⟨q1, q2, q3, q4, q5, q6⟩ := H
  refine ⟨some ⟨b, o, none⟩, i, c, Z, rfl, by omega, Or.inr ⟨b, o, rfl, q5.chg k, room_after q6 q1 k hw, q2.cap⟩, Or.inr ⟨b, o, rfl, hw.le n1⟩, hwf.le n1, n3, ?_, q3, ?_⟩
  · rw [← val_top n1 n2]; exact hv
  · exact (q4.mono (Z' := zAddr az zc) (fun _ _ _ h => h.elim)).trans k (fun bb oo hbb ⟨e1, e2, e3⟩ => q3.zone bb oo hbb ⟨o, by rw [e1], e2, by omega⟩)
set_option maxHeartbeats 2000000 in
theorem rsh_any (az ax : Option Addr) (zl zc xn xc : Nat) (X : Nat → Int) (s : Nat) (w : World) (hz : ZOK w az zc) (hx : Rd w ax xn X) (hxw : WF X xn) (hxc : xn ≤ xc) (hxn : xn < 1099511627776) (hap : Apart az zc ax xn) (hs0 : 0 < s) (hs : s < 4294967296) :
    Calls Tryz.prog 178 #[.slice az zl zc, .slice ax xn xc, .int .u64 s] w (NatRes w az zc (val X xn / 2 ^ s)) := by
  have Hz := Lib.hid hz
  have Hx := Lib.hid hx
  have Hxw := Lib.hid hxw
  have Hap := Lib.hid hap
  have hzc := hz.cap
  clear hz hx hxw hap
  have hsb : ((s : Int) == 0) = false := by simp; omega
  by_cases hm : xn ≤ s / 64
  · have hb : decide ((xn : Int) - (s : Int) / 64 ≤ 0) = true := by simp; omega
    have H0 := Lib.hid (val_shr_zero Hxw.out hm)
    go_enter Tryz.func178, Tryz.ntmps178
    go_wp2
    go_ret
    exact ⟨az, 0, zc, fun _ => 0, rfl, Nat.zero_le _, Hz.out, Or.inl rfl, fun i hi => by omega, Or.inl rfl, H0.out.symm, Or.inl ⟨rfl, rfl⟩, Chg.refl _ _⟩
  · have hb : decide ((xn : Int) - (s : Int) / 64 ≤ 0) = false := by simp; omega
    go_enter Tryz.func178, Tryz.ntmps178
    go_wp2_with fail
    rw [show ((xn : Int) - (s : Int) / 64) = ((xn - s / 64 : Nat) : Int) from by omega]
    obtain ⟨m, hmm⟩ : ∃ m, xn - s / 64 = m := ⟨_, rfl⟩
    rw [hmm]
    refine (make_any az zl zc m _ Hz.out (by omega)).mono ?_
    rintro e w1 ⟨a, c, rfl, h1, h2, h3, h4⟩
    obtain ⟨b, o, rfl, hb1, hroom⟩ := h2.room (by omega)
    have hcap := h2.cap
    obtain ⟨bx, ox, rfl, hX⟩ : ∃ bx ox, ax = some ⟨bx, ox, none⟩ ∧ Words w bx ox xn X := by
      rcases Hx.out with h | h
      · exact absurd h (by omega)
      · exact h
    have hbx : bx < w.heap.size := lt_of_cell (hX 0 (by omega))
    have hX1 : Words w1 bx (ox + s / 64) m (fun i => X (s / 64 + i)) := (hX.chg h4 (fun i hi h => h.elim)).drop (s / 64) m (by omega)
    have hfwd : Fwd bx (ox + s / 64) b o m := fwd_of_home h3 Hap.out hbx (by omega) h1
    have H := Lib.hid (And.intro h1 (And.intro h2 (And.intro h3 (And.intro h4 (And.intro hb1 hroom)))))
    have HX1 := Lib.hid hX1
    have HF := Lib.hid hfwd
    have hmc : m ≤ c := h1
    clear h1 h2 h3 h4 hroom hX1 hfwd hX hbx hb1
    have hsub : (xn : Int) - (m : Int) = ((s / 64 : Nat) : Int) := by omega
    by_cases hr : s % 64 = 0
    · have hrb : ((s : Int) % 64 == 0) = true := by simp; omega
      have HRd : Hid (Rd w1 (some ⟨bx, ox + s / 64, none⟩) m (fun i => X (s / 64 + i))) := Or.inr ⟨bx, ox + s / 64, rfl, HX1.out⟩
      go_wp2_with (with_reducible refine wpList_copy_word rfl (.tmp 40) (.tmp 45) 120 120 rfl Tryz.underlying120 b o m c (some ⟨bx, ox + s / 64, none⟩) (xn - s / 64) (xc - s / 64) m (fun i => X (s / 64 + i)) rfl rfl (by rw [hmm]; exact (Nat.min_self m).symm) (H.out.2.2.2.2.2.le H.out.1) HRd.out ?_; rintro w2 hw2; have Hq := Lib.hid hw2; clear hw2)
      go_wp2_with fail
      refine (norm_any (some ⟨b, o, none⟩) m c (fun i => X (s / 64 + i)) _ (Or.inr ⟨b, o, rfl, Hq.out.2.1⟩) hmc hcap).mono ?_
      rintro e w3 ⟨i, rfl, n1, n2, n3, rfl⟩
      have HR := Lib.hid (natres_close H.out Hq.out.1 Hq.out.2.1 (fun i hi => Hxw.out _ (by omega)) rfl n1 n2 n3)
      clear n1 n2 n3
      go_wp2
      go_ret
      rw [val_shr Hxw.out (by omega), hr, hmm]
      simpa using HR.out
    · have hrb : ((s : Int) % 64 == 0) = false := by simp; omega
      go_wp2_with fail
      rw [show ((s : Int) % 64) = ((s % 64 : Nat) : Int) from by omega]
      refine (rshVU_any bx (ox + s / 64) b o m (xc - s / 64) c (fun i => X (s / 64 + i)) (s % 64) _ (by omega) (by omega) HX1.out (fun i hi => Hxw.out _ (by omega)) (H.out.2.2.2.2.2.le H.out.1) HF.out (by omega) (by omega)).mono ?_
      rintro e w2 ⟨cy, rfl, Z, q1, q2, q3, q4⟩
      have Hq := Lib.hid (And.intro q1 (And.intro q2 (And.intro q3 (shr_of_post q4))))
      clear q1 q2 q3 q4
      go_wp2_with fail
      refine (norm_any (some ⟨b, o, none⟩) m c Z _ (Or.inr ⟨b, o, rfl, Hq.out.2.1⟩) hmc hcap).mono ?_
      rintro e w3 ⟨i, rfl, n1, n2, n3, rfl⟩
      have HR := Lib.hid (natres_close H.out Hq.out.1 Hq.out.2.1 Hq.out.2.2.1 Hq.out.2.2.2 n1 n2 n3)
      clear n1 n2 n3
      go_wp2
      go_ret
      rw [val_shr Hxw.out (by omega), hmm]
      exact HR.out
theorem Words.upd {w : World} {b o n j : Nat} {Y : Nat → Int} (h : Words w b o n Y) (hj : j < n) (v : Int) : Words (w.setCell ⟨b, o + j, none⟩ (.int .u64 v)) b o n (upd Y j v) := fun i hi => by
  by_cases e : i = j
  · subst e; rw [upd_same]; exact World.cell?_setCell_same' _ _ _ (by rw [h i hi]; rfl)
  · rw [upd_other Y v e, World.cell?_setCell_other w _ _ _ (by intro h; injection h with _ h2 _; omega)]
    exact h i hi
def turned (X : Nat → Int) (n k : Nat) : Nat → Int := fun i => if i < k ∨ n ≤ i + k then X (n - 1 - i) else X i
theorem turned_step {X : Nat → Int} {n k : Nat} (h : 2 * k + 1 < n) (i : Nat) (hi : i < n) : upd (upd (turned X n k) k (X (n - 1 - k))) (n - 1 - k) (X k) i = turned X n (k + 1) i := by
  unfold upd turned
  by_cases h1 : i = n - 1 - k
  · subst h1; simp only [if_true]; rw [if_pos (by omega)]; congr 1; omega
  · rw [if_neg h1]
    by_cases h2 : i = k
    · subst h2; simp only [if_true]; rw [if_pos (by omega)]
    · rw [if_neg h2]
      by_cases h3 : i < k ∨ n ≤ i + k
      · rw [if_pos h3, if_pos (by omega)]
      · rw [if_neg h3, if_neg (by omega)]
theorem turned_mid {X : Nat → Int} {n k : Nat} (i : Nat) (h1 : k ≤ i) (h2 : i + k < n) : turned X n k i = X i := by unfold turned; rw [if_neg (by omega)]
theorem turned_end {X : Nat → Int} {n k : Nat} (h : n ≤ 2 * k + 1) (i : Nat) (hi : i < n) : turned X n k i = X (n - 1 - i) := by
  unfold turned
  by_cases h1 : i < k ∨ n ≤ i + k
  · rw [if_pos h1]
  · rw [if_neg h1]; congr 1; omega
def RevPost (w : World) (b o n : Nat) (X : Nat → Int) (e : Ending) (w' : World) : Prop :=
  (∃ v, e = .returned v) ∧ Chg (zRow b o n) w w' ∧ Words w' b o n (fun i => X (n - 1 - i))
set_option maxHeartbeats 2000000 in
theorem reverse_any (b o n c : Nat) (X : Nat → Int) (w : World) (hn : n < 4611686018427387904) (hX : Words w b o n X) (hf : Free w b o n) :
    Calls Tryz.prog 184 #[.slice (some ⟨b, o, none⟩) n c] w (RevPost w b o n X) := by
  have HX := Lib.hid hX
  have HF := Lib.hid hf
  clear hX hf
  go_enter Tryz.func184, Tryz.ntmps184
  go_wp2_with fail
  go_loopw [2, 3] (fun si sj wr => ∃ (k : Nat), si = .int .i64 k ∧ sj = .int .i64 ((n : Int) - 1 - k) ∧ k ≤ n ∧ Hid (Chg (zRow b o n) w wr ∧ Words wr b o n (turned X n k))) (fun si sj _ => n - (intOf si).toNat)
  case atStart => exact ⟨0, rfl, by simp, Nat.zero_le _, Chg.refl _ _, HX.out.congr (fun i hi => (turned_mid i (Nat.zero_le _) hi).symm)⟩
  case round =>
    obtain ⟨k, rfl, rfl, hk, H⟩ := hrel
    by_cases hlt : 2 * k + 1 < n
    · have hb : decide ((k : Int) < (n : Int) - 1 - k) = true := by simp; omega
      have hq : (n : Int) - 1 - k = ((n - 1 - k : Nat) : Int) := by omega
      have hc1 := H.out.2 k (by omega)
      have hc2 := H.out.2 (n - 1 - k) (by omega)
      rw [turned_mid k (Nat.le_refl _) (by omega)] at hc1
      rw [turned_mid (n - 1 - k) (by omega) (by omega)] at hc2
      have hf1 := (H.out.1.frozen (HX.out k (by omega)) (o + k)).trans (HF.out k (by omega))
      have hf2 := (H.out.1.frozen (HX.out k (by omega)) (o + (n - 1 - k))).trans (HF.out (n - 1 - k) (by omega))
      have hk1 : k < n := by omega
      go_wp2_with fail
      go_region
      go_wp2
      refine ⟨⟨k + 1, by go_num, by go_num, by omega, ?_⟩, by simp [intOf]; omega⟩
      have h1 : (n - 1 - k) < n := by omega
      exact ⟨((H.out.1.setCell b (o + k) _ (fun _ => ⟨rfl, by omega, by omega⟩)).setCell b (o + (n - 1 - k)) _ (fun _ => ⟨rfl, by omega, by omega⟩)).drew, ((H.out.2.upd hk1 _).upd h1 _).congr (turned_step hlt)⟩
    · have hb : decide ((k : Int) < (n : Int) - 1 - k) = false := by simp; omega
      go_wp2_with fail
      go_end0
      exact ⟨⟨_, rfl⟩, H.out.1, H.out.2.congr (turned_end (by omega))⟩
structure Errs (w : World) (eof e1 e2 : Value) : Prop where
  eof : w.cell? ⟨0, 0, none⟩ = some eof
  sep : w.cell? ⟨2, 0, none⟩ = some e1
  dig : w.cell? ⟨3, 0, none⟩ = some e2
theorem Errs.chg {Z : Zone} {w w' : World} {eof e1 e2 : Value} (h : Errs w eof e1 e2) (k : Chg Z w w') (hz : ∀ b, ¬ Z b 0) : Errs w' eof e1 e2 := ⟨k.cell h.eof (hz _), k.cell h.sep (hz _), k.cell h.dig (hz _)⟩
def Head (w : World) (br : Nat) (s : ByteArray) (q : Nat) (more : Bool) (c : Int) : Prop :=
  c = (if more then byteAt s q else 0) ∧ (more = true ↔ q < s.size) ∧ RdAt w br s (if more then q + 1 else q)
def errOf (more : Bool) (eof : Value) : Value := if more then .nilIface else eof
theorem errOf_true (v : Value) : errOf true v = .nilIface := rfl
theorem errOf_false (v : Value) : errOf false v = v := rfl
def HeadPost (w : World) (br : Nat) (s : ByteArray) (q : Nat) (eof : Value) (e : Ending) (w' : World) : Prop :=
  ∃ more c, e = .returned (.tuple #[.int .u8 c, errOf more eof]) ∧ Head w' br s q more c ∧ Chg (zRow br 1 2) w w'
theorem read_head (br : Nat) (s : ByteArray) (q : Nat) (eof : Value) (w : World) (h : RdAt w br s q) (hs : s.size < 4611686018427387904) (hq : q ≤ s.size) (hbr : br ≠ 0) (hE : w.cell? ⟨0, 0, none⟩ = some eof) :
    Calls Tryz.prog 113 #[.pointer (some ⟨br, 0, none⟩)] w (HeadPost w br s q eof) := by
  by_cases hi : q < s.size
  · refine (read_more br s q _ w h hi hs rfl).mono ?_
    rintro e w' ⟨rfl, h1, h2⟩
    exact ⟨true, _, rfl, ⟨rfl, by simp [hi], h1⟩, h2⟩
  · refine (ReadByte_end br s q eof w h (by omega) (by omega) hbr hE).mono ?_
    rintro e w' ⟨rfl, h1, h2⟩
    exact ⟨false, _, rfl, ⟨rfl, by simp [hi], h1⟩, h2⟩
def PreRel (w : World) (br : Nat) (s : ByteArray) (eof : Value) (PR : Pre) (s9 s10 s11 s13 s15 s16 : Value) (wc : World) : Prop :=
  ∃ more c, s9 = .int .i64 PR.b ∧ s10 = .int .i64 PR.cnt ∧ s11 = errOf more eof ∧ s13 = .int .i32 PR.prev ∧ s15 = .int .u8 c ∧ s16 = .int .i64 PR.pf ∧ Hid (Head wc br s PR.p more c ∧ Chg (zRow br 1 2) w wc)
theorem zrow_zero {br b : Nat} : ¬ zRow br 1 2 b 0 := fun ⟨_, h, _⟩ => by omega
theorem pre_two (frac : Bool) {s : ByteArray} {p : Nat} (h0 : p + 1 < s.size) (h1 : byteAt s p = 48) (h2 : byteAt s (p + 1) = 98 ∨ byteAt s (p + 1) = 66) : preS 0 frac s p = ⟨2, 98, p + 2, 48, 0⟩ := by
  unfold preS; rw [if_neg (by simp), if_pos ⟨by omega, h1⟩, if_pos h0, if_pos h2]
theorem pre_eight (frac : Bool) {s : ByteArray} {p : Nat} (h0 : p + 1 < s.size) (h1 : byteAt s p = 48) (h2 : byteAt s (p + 1) = 111 ∨ byteAt s (p + 1) = 79) : preS 0 frac s p = ⟨8, 111, p + 2, 48, 0⟩ := by
  unfold preS; rw [if_neg (by simp), if_pos ⟨by omega, h1⟩, if_pos h0, if_neg (by omega), if_pos h2]
theorem pre_sixteen (frac : Bool) {s : ByteArray} {p : Nat} (h0 : p + 1 < s.size) (h1 : byteAt s p = 48) (h2 : byteAt s (p + 1) = 120 ∨ byteAt s (p + 1) = 88) : preS 0 frac s p = ⟨16, 120, p + 2, 48, 0⟩ := by
  unfold preS; rw [if_neg (by simp), if_pos ⟨by omega, h1⟩, if_pos h0, if_neg (by omega), if_neg (by omega), if_pos h2]
theorem pre_other (frac : Bool) {s : ByteArray} {p : Nat} (h0 : p + 1 < s.size) (h1 : byteAt s p = 48) (h2 : byteAt s (p + 1) ≠ 98) (h3 : byteAt s (p + 1) ≠ 66) (h4 : byteAt s (p + 1) ≠ 111) (h5 : byteAt s (p + 1) ≠ 79) (h6 : byteAt s (p + 1) ≠ 120) (h7 : byteAt s (p + 1) ≠ 88) :
    preS 0 frac s p = if frac = true then ⟨10, 0, p + 1, 48, 1⟩ else ⟨8, 48, p + 1, 48, 0⟩ := by
  unfold preS; rw [if_neg (by simp), if_pos ⟨by omega, h1⟩, if_pos h0, if_neg (by omega), if_neg (by omega), if_neg (by omega)]
theorem pre_zero (frac : Bool) {s : ByteArray} {p : Nat} (h0 : ¬ p + 1 < s.size) (hp : p < s.size) (h1 : byteAt s p = 48) : preS 0 frac s p = ⟨10, 0, p + 1, 48, 1⟩ := by
  unfold preS; rw [if_neg (by simp), if_pos ⟨hp, h1⟩, if_neg h0]
theorem pre_none (frac : Bool) {s : ByteArray} {p : Nat} (h : ¬ (p < s.size ∧ byteAt s p = 48)) : preS 0 frac s p = ⟨10, 0, p, 46, 0⟩ := by
  unfold preS; rw [if_neg (by simp), if_neg h]
theorem pre_given {base : Int} (frac : Bool) {s : ByteArray} {p : Nat} (h : base ≠ 0) : preS base frac s p = ⟨base, 0, p, 46, 0⟩ := by
  unfold preS; rw [if_pos h]
def SwRel (frac : Bool) (s : ByteArray) (p : Nat) (w : World) (s9 s16 : Value) (wc : World) : Prop :=
  ∃ b pf : Int, s9 = .int .i64 b ∧ s16 = .int .i64 pf ∧ w = wc ∧ Hid (preS 0 frac s p = if pf = 0 then ⟨b, 0, p + 1, 48, 1⟩ else if pf = 48 then ⟨b, 48, p + 1, 48, 0⟩ else ⟨b, pf, p + 2, 48, 0⟩)
end Go.Proofs.YtmgfajamanakcaaGreatDoor
