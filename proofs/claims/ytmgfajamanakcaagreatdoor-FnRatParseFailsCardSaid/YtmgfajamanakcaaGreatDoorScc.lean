/-
  nat.scan: what stands behind the loop, in plain Lean; Reverse of nothing; io.EOF is io.EOF. Conditions: bases 2, 8, 10, 16.
-/
import Derived.Test.YtmgfajamanakcaaGreatDoorScb
import Derived.Deep.LoopGhost
import Derived.LaidEql
namespace Go.Proofs.YtmgfajamanakcaaGreatDoor
open Go.RowKit
set_option maxRecDepth 100000
set_option linter.unusedVariables false
theorem info229 : (Tryz.prog.info? 229).map (fun i => i.comparable) = some true := by kernel_rfl
theorem info231 : (Tryz.prog.info? 231).isSome = true := by kernel_rfl
theorem eof_eq (a : Addr) (w : World) : (binOp .eql 110 (.iface 229 (.pointer (some a))) (.iface 229 (.pointer (some a)))).run Tryz.prog w = .ok (.bool true) w := by
  obtain ⟨i, hi⟩ := Option.isSome_iff_exists.1 info231
  have h := info229
  cases hj : Tryz.prog.info? 229 with
  | none => rw [hj] at h; cases h
  | some j =>
    rw [hj] at h
    exact run_eql_iface_ptr_same w a Tryz.underlying110 Tryz.underlying229 hj (by simpa using h) hi
theorem eof_ne (a : Addr) (w : World) : (binOp .eql 110 .nilIface (.iface 229 (.pointer (some a)))).run Tryz.prog w = .ok (.bool false) w :=
  run_eql_iface_nil_left w 229 (.pointer (some a)) Tryz.underlying110
set_option maxHeartbeats 1000000 in
theorem reverse_zero (a : Option Addr) (c : Nat) (w : World) : Calls Tryz.prog 184 #[.slice a 0 c] w fun e w' => (∃ v, e = .returned v) ∧ w = w' := by
  go_enter Tryz.func184, Tryz.ntmps184
  go_wp2_with fail
  go_loopw [2, 3] (fun si sj wr => si = .int .i64 0 ∧ sj = .int .i64 (-1) ∧ w = wr) (fun si sj _ => 0)
  case atStart => exact ⟨rfl, rfl, rfl⟩
  case round =>
    obtain ⟨rfl, rfl, rfl⟩ := hrel
    go_wp2_with fail
    go_end0
    exact ⟨⟨_, rfl⟩, rfl⟩
/-- A number that was read, in memory newer than w0. -/
def Got (w0 w : World) (a : Option Addr) (n c : Nat) (V : Int) : Prop := n ≤ c ∧ n < 1048577 ∧ ZOK w a c ∧ Fresh w0 a ∧ ∃ X, Rd w a n X ∧ WF X n ∧ Norm X n ∧ val X n = V
theorem Got.chg {Z : Zone} {w0 w w' : World} {a : Option Addr} {n c : Nat} {V : Int} (h : Got w0 w a n c V) (k : Chg Z w w') (hz : ∀ b o, zAddr a c b o → ¬ Z b o) : Got w0 w' a n c V := by
  obtain ⟨h1, h2, h3, h4, X, h5, h6⟩ := h
  exact ⟨h1, h2, h3.chg k hz, h4, X, h5.chg k h1 hz, h6⟩
theorem got_of_res {w0 w w' : World} {a : Option Addr} {c N : Nat} {v : Int} {e : Ending} (hf : Fresh w0 a) (hw : w0.heap.size ≤ w.heap.size) (hv : v < BB ^ N) (hN : N < 1048577) (k : NatRes w a c v e w') :
    ∃ a' n' c', e = .returned (.slice a' n' c') ∧ Got w0 w' a' n' c' v ∧ Chg (zAddr a c) w w' := by
  obtain ⟨a', n', c', Y, k0, k1, k2, k3, k4, k5, k6, k7, k8⟩ := k
  exact ⟨a', n', c', k0, ⟨k1, by have := norm_le k4 k5 (by rw [k6]; exact hv); omega, k2, hf.home k7 hw, Y, k3, k4, k5, k6⟩, k8⟩
/-- Groups alone (bn ≠ 0, no digit left over): the number. -/
theorem LR.got_mul {w0 w : World} {b bn : Int} {n : Nat} {st : SS} {a : Option Addr} {zn zc : Nat} {di : Int} (h : LR w0 w b bn n st a zn zc di 0) (hbn : bn ≠ 0) (hc : st.cnt < 1048576) : Got w0 w a zn zc st.V := by
  obtain ⟨⟨V0, N, ⟨g1, g2, g3, g4, X, g5, g6, g7⟩, h2, h3, h4⟩, h5, h6, h7⟩ := h
  rw [Int.pow_zero] at h4 h7
  rcases g7 with ⟨e, _⟩ | ⟨_, e1, e2⟩
  · exact absurd e hbn
  · exact ⟨g1, by omega, g3, g4, X, g5, g6, e2, by rw [e1]; omega⟩
/-- The last digits (bn ≠ 0). -/
theorem LR.last_mul {w0 w : World} {b bn : Int} {n : Nat} {st : SS} {a : Option Addr} {zn zc : Nat} {di : Int} {i : Nat} (h : LR w0 w b bn n st a zn zc di i) (hb : BaseOK b bn n) (hbn : bn ≠ 0) (hc : st.cnt < 1048576) (hV : st.V < b ^ st.cnt) (hw : w0.heap.size ≤ w.heap.size) :
    Calls Tryz.prog 164 #[.slice a zn zc, .slice a zn zc, .int .u64 (b ^ i), .int .u64 di] w fun e w' => ∃ a' n' c', e = .returned (.slice a' n' c') ∧ Got w0 w' a' n' c' st.V ∧ Chg (zAddr a zc) w w' := by
  have hp := hb.pow_le
  have hfr := h.fresh
  obtain ⟨⟨V0, N, ⟨g1, g2, g3, g4, X, g5, g6, g7⟩, h2, h3, h4⟩, h5, h6, h7⟩ := h
  have e1 : val X zn = V0 := by
    rcases g7 with ⟨e, _⟩ | ⟨_, e1, e2⟩
    · exact absurd e hbn
    · exact e1
  have hb0 : (0:Int) < b ^ i := Int.pow_pos (by have := hb.1; omega)
  have hbi : b ^ i < BB := by
    obtain ⟨k, rfl⟩ : ∃ k, n = (i + 1) + k := ⟨n - (i + 1), by omega⟩
    rw [Int.pow_add, Int.pow_succ] at hp
    have hk : (1:Int) ≤ b ^ k := Int.pow_pos (by have := hb.1; omega)
    have h1 := Int.mul_le_mul_of_nonneg_left (show (2:Int) ≤ b from hb.1) (Int.le_of_lt hb0)
    have h2 := Int.mul_le_mul_of_nonneg_left hk (show 0 ≤ b ^ i * b by omega)
    omega
  unfold BB at hbi
  refine (mulAddWW_any a a zn zc zn zc X (b ^ i) di w g3 g5 g6 g1 (by omega) (Or.inl rfl) ⟨by omega, hbi⟩ ⟨h6, by omega⟩).mono fun e w' k => ?_
  have hv : val X zn * b ^ i + di = st.V := by rw [e1, h4]
  rw [hv] at k
  obtain ⟨a', n', c', r1, r2, r3⟩ := got_of_res hfr hw (Int.lt_of_lt_of_le hV (pow_le_BB hb.1 hb.2.1 _)) (by omega) k
  exact ⟨a', n', c', r1, r2, r3⟩
/-- Words of a value, a 0 at their end perhaps. -/
def GotU (w0 w : World) (a : Option Addr) (n c : Nat) (V : Int) : Prop := n ≤ c ∧ n < 1048577 ∧ ZOK w a c ∧ Fresh w0 a ∧ ∃ X, Rd w a n X ∧ WF X n ∧ val X n = V
theorem rev_call {w0 w : World} {a : Option Addr} {n c N : Nat} {R : Int} (h : Grp w0 w 0 a n c N R) (hn : N < 1048577) :
    Calls Tryz.prog 184 #[.slice a n c] w fun e w' => (∃ v, e = .returned v) ∧ GotU w0 w' a n c R ∧ Chg (zAddr a c) w w' := by
  obtain ⟨g1, g2, g3, g4, X, g5, g6, g7⟩ := h
  have hv : val (fun i => X (n - 1 - i)) n = R := by
    rcases g7 with ⟨_, e⟩ | ⟨e, _⟩
    · exact e
    · exact absurd rfl e
  by_cases h0 : n = 0
  · subst h0
    refine (reverse_zero a c w).mono ?_
    rintro e w' ⟨h1, rfl⟩
    exact ⟨h1, ⟨g1, by omega, g3, g4, X, g5, g6, by simpa [val] using hv⟩, Chg.refl _ _⟩
  · obtain ⟨b, o, rfl, hX⟩ : ∃ b o, a = some ⟨b, o, none⟩ ∧ Words w b o n X := by
      rcases g5 with h | h
      · exact absurd h h0
      · exact h
    obtain ⟨b', o', e, hpb, hroom⟩ := g3.room (by omega)
    injection e with e; injection e with e1 e2; subst e1; subst e2
    refine (reverse_any b o n c X w (by omega) hX (fun i hi => (hroom i (by omega)).2)).mono ?_
    rintro e w' ⟨h1, h2, h3⟩
    refine ⟨h1, ⟨g1, by omega, Or.inr ⟨b, o, rfl, hpb.chg h2, room_after hroom g1 h2 h3, g3.cap⟩, g4, _, Or.inr ⟨b, o, rfl, h3⟩, fun i hi => g6 _ (by omega), hv⟩, ?_⟩
    exact h2.mono (fun bb oo _ ⟨e1, e2, e3⟩ => ⟨o, by rw [e1], e2, by omega⟩)
theorem norm_call {w0 w : World} {a : Option Addr} {n c : Nat} {R : Int} (h : GotU w0 w a n c R) :
    Calls Tryz.prog 141 #[.slice a n c] w fun e w' => ∃ i, e = .returned (.slice a i c) ∧ Got w0 w a i c R ∧ w = w' := by
  obtain ⟨g1, g2, g3, g4, X, g5, g6, g7⟩ := h
  refine (norm_any a n c X w g5 g1 g3.cap).mono ?_
  rintro e w' ⟨i, rfl, h1, h2, h3, rfl⟩
  refine ⟨i, rfl, ⟨by omega, by omega, g3, g4, X, ?_, g6.le h1, h3, by rw [← val_top h1 h2]; exact g7⟩, rfl⟩
  rcases g5 with h | ⟨b, o, e, h⟩
  · exact Or.inl (by omega)
  · exact Or.inr ⟨b, o, e, h.le h1⟩
theorem rsh_call {w0 w : World} {a : Option Addr} {n c N s : Nat} {R V : Int} (h : Got w0 w a n c R) (hw : w0.heap.size ≤ w.heap.size) (hs0 : 0 < s) (hs : s < 4294967296) (hV : R / 2 ^ s = V) (hN : V < BB ^ N) (hN2 : N < 1048577) :
    Calls Tryz.prog 178 #[.slice a n c, .slice a n c, .int .u64 s] w fun e w' => ∃ a' n' c', e = .returned (.slice a' n' c') ∧ Got w0 w' a' n' c' V ∧ Chg (zAddr a c) w w' := by
  obtain ⟨g1, g2, g3, g4, X, g5, g6, g7, g8⟩ := h
  refine (rsh_any a a n c n c X s w g3 g5 g6 g1 (by omega) (Or.inl rfl) hs0 hs).mono fun e w' k => ?_
  rw [g8, hV] at k
  exact got_of_res g4 hw hN hN2 k
theorem bn0_val {V V0 di : Int} {b : Int} {n i q : Nat} (hb : b ^ n = BB) (hq : b = 2 ^ q) (hi : i < n) (hV : V = V0 * b ^ i + di) : (V0 * BB + di * b ^ (n - i)) / 2 ^ ((n - i) * q) = V := by
  have e : b ^ (n - i) = 2 ^ ((n - i) * q) := by rw [hq, ← Int.pow_mul, Nat.mul_comm]
  have e2 : BB = b ^ i * b ^ (n - i) := by rw [← Int.pow_add, show i + (n - i) = n by omega, hb]
  rw [← e, e2, show V0 * (b ^ i * b ^ (n - i)) + di * b ^ (n - i) = (V0 * b ^ i + di) * b ^ (n - i) by grind, hV]
  exact Int.mul_ediv_cancel _ (by have : (0:Int) < b ^ (n - i) := by rw [e]; exact Int.pow_pos (by omega)
                                  omega)
theorem bn0_word {di : Int} {b : Int} {n i : Nat} (hb0 : 2 ≤ b) (hb : b ^ n = BB) (hi : i < n) (h0 : 0 ≤ di) (h1 : di < b ^ i) : U64 (di * b ^ (n - i)) ∧ IntKind.u64.wrap (di * b ^ (n - i)) = di * b ^ (n - i) := by
  have hp : (0:Int) < b ^ (n - i) := Int.pow_pos (by omega)
  have e2 : BB = b ^ i * b ^ (n - i) := by rw [← Int.pow_add, show i + (n - i) = n by omega, hb]
  have h2 := Int.mul_nonneg h0 (Int.le_of_lt hp)
  have h3 := Int.mul_le_mul_of_nonneg_right (show di + 1 ≤ b ^ i by omega) (Int.le_of_lt hp)
  rw [Int.add_mul, ← e2] at h3
  unfold BB at h3
  refine ⟨⟨h2, by omega⟩, ?_⟩
  rw [wrap_u64]; omega
theorem calls_third {f : FuncId} {v1 v2 : Value} {x y : Int} {w : World} {Q : Ending → World → Prop} (h : y = x) (k : Calls Tryz.prog f #[v1, v2, .int .u64 y] w Q) : Calls Tryz.prog f #[v1, v2, .int .u64 x] w Q := by subst h; exact k
theorem calls_second {f : FuncId} {v1 : Value} {x y : Int} {w : World} {Q : Ending → World → Prop} (h : y = x) (k : Calls Tryz.prog f #[v1, .int .i64 y] w Q) : Calls Tryz.prog f #[v1, .int .i64 x] w Q := by subst h; exact k
theorem grp_app {w0 w : World} {a : Option Addr} {zn zc N : Nat} {V0 x y : Int} (g1 : Grp w0 w 0 a zn zc N V0) (hx : y = x) (h1 : U64 x) (hw : w0.heap.size ≤ w.heap.size) (hN : N < 1048577) (o : Obj) :
    ∃ X, ZOK (w.alloc o) a zc ∧ Rd (w.alloc o) a zn X ∧ zn ≤ zc ∧ zn < 1099511627776 ∧ ∀ a' c' w', AppRes (w.alloc o) a zn zc X y a' c' w' → Grp w0 w' 0 a' (zn + 1) c' (N + 1) (V0 * BB + x) ∧ Chg (zAddr a zc) w w' := by
  subst hx
  have kal : Chg zNone w (w.alloc o) := (Chg.refl _ _).alloc o
  have g1' := g1.chg kal (fun _ _ _ h => h)
  obtain ⟨q1, q2, q3, q4, X, q5, q6, q7⟩ := g1'
  refine ⟨X, q3, q5, q1, by omega, fun a' c' w' k => ⟨?_, ?_⟩⟩
  · refine Grp.app (w0 := w0) (w := w.alloc o) (w' := w') (a := a) (a' := a') (n := zn) (c := zc) (c' := c') (N := N) (V := V0) (x := y) ⟨q1, q2, q3, q4, X, q5, q6, q7⟩ h1 (by have := kal.size; omega)
      (fun X' hX' => ⟨X, fun i hi => ?_, k⟩)
    rcases q5 with e | ⟨b1, o1, e, hw1⟩
    · omega
    · rcases hX' with e' | ⟨b2, o2, e', hw2⟩
      · omega
      · rw [e] at e'; injection e' with e'; injection e' with e1 e2; subst e1; subst e2
        have := (hw1 i hi).symm.trans (hw2 i hi)
        injection this with this; injection this
  · exact ((Chg.refl (zAddr a zc) w).alloc o).trans k.2.2.2.2 (fun _ _ _ h => h)
theorem base_pow {b bn : Int} {n i : Nat} (hb : BaseOK b bn n) (hi : i < n) : b ^ i < 18446744073709551616 ∧ 0 ≤ b ^ i := by
  have hp := hb.pow_le
  have hb0 : (0:Int) < b ^ i := Int.pow_pos (by have := hb.1; omega)
  obtain ⟨k, rfl⟩ : ∃ k, n = (i + 1) + k := ⟨n - (i + 1), by omega⟩
  rw [Int.pow_add, Int.pow_succ] at hp
  have hk : (1:Int) ≤ b ^ k := Int.pow_pos (by have := hb.1; omega)
  have h1 := Int.mul_le_mul_of_nonneg_left (show (2:Int) ≤ b from hb.1) (Int.le_of_lt hb0)
  have h2 := Int.mul_le_mul_of_nonneg_left hk (show 0 ≤ b ^ i * b by omega)
  unfold BB at hp
  omega
theorem scanS_zero {base : Int} {frac : Bool} {s : ByteArray} {p q : Nat} {st : SS} {PR : Pre} {sep : Bool} (hp : preS base frac s p = PR) (h : lastS base frac s p = (q, st)) (hc : st.cnt = 0 ∧ PR.pf = 48) (hs : sepOf st = sep) : scanS base frac s p = ⟨0, 10, 1, if sep = true then 1 else 0, q⟩ := by
  subst hs; subst hp
  unfold scanS; rw [h]; simp only; rw [if_pos hc]
theorem scanS_else {base : Int} {frac : Bool} {s : ByteArray} {p q : Nat} {st : SS} {PR : Pre} {sep : Bool} (hp : preS base frac s p = PR) (h : lastS base frac s p = (q, st)) (hc : ¬ (st.cnt = 0 ∧ PR.pf = 48)) (hs : sepOf st = sep) :
    scanS base frac s p = ⟨st.V, PR.b, if 0 ≤ st.dp then st.dp - st.cnt else st.cnt, if st.cnt = 0 then 2 else if sep = true then 1 else 0, q⟩ := by
  subst hs; subst hp
  unfold scanS; rw [h]; simp only; rw [if_neg hc]
def FinRel (w0 : World) (br : Nat) (s : ByteArray) (q : Nat) (V : Int) (s0 : Value) (wc : World) : Prop := ∃ a n c, s0 = .slice a n c ∧ Hid (Got w0 wc a n c V ∧ RdAt wc br s q ∧ Chg (zRow br 1 2) w0 wc)
/-- What nat.scan leaves. -/
def ScanPost (w0 : World) (br : Nat) (s : ByteArray) (sc : Scan) (e1 e2 : Value) (e : Ending) (w' : World) : Prop :=
  ∃ a n c, e = .returned (.tuple #[.slice a n c, .int .i64 sc.b, .int .i64 sc.cnt, if sc.err = 0 then .nilIface else if sc.err = 1 then e1 else e2]) ∧ Got w0 w' a n c sc.V ∧ RdAt w' br s sc.p ∧ Chg (zRow br 1 2) w0 w'
end Go.Proofs.YtmgfajamanakcaaGreatDoor
