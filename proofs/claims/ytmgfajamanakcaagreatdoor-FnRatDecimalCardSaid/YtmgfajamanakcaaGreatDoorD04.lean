/- Part of the proof of FnParse: what the functions that it reaches do, as contracts. Conditions: those that each theorem names. -/
import Derived.Test.YtmgfajamanakcaaGreatDoorD03
import Derived.ArgAppend
import Derived.Laws.IdiomCopy
import Derived.BigRegion
import Derived.Deep.DeepCutAuto
import Derived.Deep.CutBlock
namespace Go.Proofs.YtmgfajamanakcaaGreatDoor
set_option linter.unusedVariables false
set_option linter.unusedSimpArgs false
open Go.RowKit
structure SS where
  prev : Int
  inval : Bool
  frac : Bool
  cnt : Nat
  dp : Int
  V : Int
def digOf (c : Int) : Int := if 48 ≤ c ∧ c ≤ 57 then c - 48 else if 97 ≤ c ∧ c ≤ 122 then c - 87 else if 65 ≤ c ∧ c ≤ 90 then c - 55 else 63
def stepS (b0 : Bool) (b : Int) (st : SS) (c : Int) : Option SS :=
  if c = 46 ∧ st.frac = true then some { st with frac := false, inval := st.inval || st.prev == 95, prev := 46, dp := st.cnt }
  else if c = 95 ∧ b0 = true then some { st with inval := st.inval || st.prev != 48, prev := 95 }
  else if digOf c < b then some { st with prev := 48, cnt := st.cnt + 1, V := st.V * b + digOf c }
  else none
structure RunOK (b : Int) (s : ByteArray) (q : Nat) (st : SS) : Prop where
  hq : q ≤ s.size
  hc : st.cnt ≤ q
  hV0 : 0 ≤ st.V
  hV : st.V < b ^ st.cnt
  hdp : -1 ≤ st.dp ∧ st.dp ≤ st.cnt
theorem digOf_nonneg {c : Int} : 0 ≤ digOf c := by unfold digOf; split <;> (try split) <;> (try split) <;> omega
theorem RunOK.step {b0 : Bool} {b : Int} {s : ByteArray} {q : Nat} {st st' : SS} (h : RunOK b s q st) (hb : 2 ≤ b) (hq : q < s.size) (hs : stepS b0 b st (byteAt s q) = some st') : RunOK b s (q + 1) st' := by
  obtain ⟨h1, h2, h3, h4, h5⟩ := h
  unfold stepS at hs
  split at hs
  · injection hs with hs; subst hs; exact ⟨by omega, by simp only; omega, h3, h4, by simp only; omega⟩
  · split at hs
    · injection hs with hs; subst hs; exact ⟨by omega, by simp only; omega, h3, h4, h5⟩
    · split at hs
      · rename_i hd
        injection hs with hs; subst hs
        have h0 := digOf_nonneg (c := byteAt s q)
        refine ⟨by omega, by simp only; omega, ?_, ?_, by simp only; omega⟩
        · have := Int.mul_nonneg h3 (show (0:Int) ≤ b by omega)
          simp only; omega
        · simp only
          rw [Int.pow_succ]
          have := Int.mul_le_mul_of_nonneg_right (show st.V ≤ b ^ st.cnt - 1 by omega) (show (0:Int) ≤ b by omega)
          rw [Int.sub_mul] at this
          omega
      · cases hs
set_option maxRecDepth 100000
def AppRes (W : World) (a : Option Addr) (n c : Nat) (X : Nat → Int) (x : Int) (a' : Option Addr) (c' : Nat) (W' : World) : Prop :=
  n + 1 ≤ c' ∧ ZOK W' a' c' ∧ Rd W' a' (n + 1) (upd X n x) ∧ Home W a c a' c' ∧ Chg (zAddr a c) W W'
def wordVals (X : Nat → Int) (n : Nat) : List Value := (List.range n).map fun i => .int .u64 (X i)
theorem wordVals_length (X : Nat → Int) (n : Nat) : (wordVals X n).length = n := by simp [wordVals]
theorem wordVals_get (X : Nat → Int) (n j : Nat) (v : Value) (h : (wordVals X n)[j]? = some v) : j < n ∧ v = .int .u64 (X j) := by
  unfold wordVals at h
  rw [List.getElem?_map] at h
  by_cases hj : j < n
  · rw [List.getElem?_range hj] at h
    exact ⟨hj, by simpa using h.symm⟩
  · rw [List.getElem?_eq_none (by simpa using hj)] at h; cases h
theorem zeroCells_word (k : Nat) : Builtin.zeroCells #[.int .u64 0] k = Array.replicate k (.int .u64 0) := by
  apply Array.ext
  · simp [Builtin.zeroCells]
  · intro i h1 h2
    simp [Builtin.zeroCells, Nat.mod_one]
theorem new_words (w : World) (X : Nat → Int) (n k : Nat) :
    Words (w.alloc (.cells ((wordVals X n).toArray ++ Array.replicate k (.int .u64 0)) 153)) w.heap.size 0 n X ∧ Room (w.alloc (.cells ((wordVals X n).toArray ++ Array.replicate k (.int .u64 0)) 153)) w.heap.size 0 (n + k) := by
  have hget : ∀ i, i < n → ((wordVals X n).toArray ++ Array.replicate k (Value.int .u64 0))[i]? = some (.int .u64 (X i)) := fun i hi => by
    rw [Array.getElem?_append_left (by simpa [wordVals] using hi)]
    simp [wordVals, hi]
  have hget2 : ∀ i, n ≤ i → i < n + k → ((wordVals X n).toArray ++ Array.replicate k (Value.int .u64 0))[i]? = some (.int .u64 0) := fun i h1 h2 => by
    rw [Array.getElem?_append_right (by simpa [wordVals] using h1)]
    simp only [List.size_toArray, wordVals_length]
    rw [Array.getElem?_replicate, if_pos (by omega)]
  refine ⟨fun i hi => ?_, fun i hi => ⟨?_, frozen?_alloc_new w _ _ _⟩⟩
  · rw [Nat.zero_add]; exact cell?_alloc_new w _ _ _ _ (hget i hi)
  · rw [Nat.zero_add]
    by_cases h : i < n
    · exact ⟨_, cell?_alloc_new w _ _ _ _ (hget i h)⟩
    · exact ⟨_, cell?_alloc_new w _ _ _ _ (hget2 i (by omega) hi)⟩
theorem grownCap_ge (w : World) (need old : Nat) (e : TypeId) (h : need < 9223372036854775808) : need ≤ grownCap w need old e ∧ grownCap w need old e < 9223372036854775808 := by
  have e1 : grownCap w need old e = need + (w.tape w.drawn (.appendCap need old e)) % (2 ^ 63 - need) := rfl
  rw [e1]
  have := Nat.mod_lt (w.tape w.drawn (.appendCap need old e)) (show 0 < 2 ^ 63 - need by omega)
  omega
theorem chg_drew_alloc (W : World) (o : Obj) (Z : Zone) : Chg Z W (W.drew.alloc o) := ((Chg.refl Z W).drew).alloc o
theorem chg_setCells (b : Nat) : ∀ (vs : List Value) (o : Nat) (w : World), Chg (zRow b o vs.length) w (w.setCells b o vs)
  | [], _, w => Chg.refl _ w
  | v :: r, o, w => by
    have h1 : Chg (zRow b o (v :: r).length) w (w.setCell ⟨b, o, none⟩ v) := (Chg.refl _ _).setCell b o v (fun _ => ⟨rfl, Nat.le_refl _, by simp⟩)
    exact h1.trans (chg_setCells b r (o + 1) _) (fun b' o' _ ⟨e1, e2, e3⟩ => ⟨e1, by omega, by simp; omega⟩)
theorem words_setCells (b o n : Nat) (X : Nat → Int) (w : World) (h : ∀ j, j < n → (w.cell? ⟨b, o + j, none⟩).isSome = true) : Words (w.setCells b o (wordVals X n)) b o n X := fun i hi => by
  have := World.cell?_setCells_in b (wordVals X n) o w (fun j hj => h j (by rwa [wordVals_length] at hj)) i (by rw [wordVals_length]; exact hi)
  rw [this]
  simp [wordVals]
theorem room_setCells (b o n : Nat) (X : Nat → Int) (b' o' m : Nat) (w : World) (h : Room w b' o' m) : Room (w.setCells b o (wordVals X n)) b' o' m := by
  have key : ∀ (l : List Value) (o : Nat) (w : World), (∀ v ∈ l, ∃ x : Int, v = .int .u64 x) → Room w b' o' m → Room (w.setCells b o l) b' o' m := by
    intro l
    induction l with
    | nil => intro o w _ h; exact h
    | cons v r ih =>
      intro o w hv h
      obtain ⟨x, rfl⟩ := hv v (by simp)
      exact ih (o + 1) _ (fun u hu => hv u (by simp [hu])) (h.setInt b o x)
  refine key _ _ _ (fun v hv => ?_) h
  simp only [wordVals, List.mem_map] at hv
  obtain ⟨i, _, rfl⟩ := hv
  exact ⟨_, rfl⟩
theorem size153 : (Tryz.prog.info? 153).map (·.size) = some 1 := by kernel_rfl
theorem run_copy_word (t1 t2 ty : TypeId) (hu : Tryz.prog.underlying t1 = some (.slice 153)) (b o nd cd : Nat) (sa : Option Addr) (ns cs n : Nat) (X : Nat → Int) (W : World) (hn : n = Nat.min ns nd) (hz : Room W b o n) (hr : Rd W sa n X) :
    ∃ W', (Builtin.copy_ #[t1, t2] ty #[.slice (some ⟨b, o, none⟩) nd cd, .slice sa ns cs]).run Tryz.prog W = .ok (.int .i64 n) W' ∧ Chg (zRow b o n) W W' ∧ Words W' b o n X ∧ (∀ b' o' m, Room W b' o' m → Room W' b' o' m) := by
  rcases hr with rfl | ⟨bs, os, rfl, hw⟩
  · exact ⟨W, run_copy_none W t1 t2 ty 153 _ sa nd cd ns cs hu size153 hn.symm, Chg.refl _ _, fun i hi => by omega, fun _ _ _ h => h⟩
  · have hrun := run_copy_cells (P := Tryz.prog) W t1 t2 ty 153 b o nd cd ⟨bs, os, none⟩ ns cs (wordVals X n) hu size153 (by rw [wordVals_length]; exact hn)
      (fun j v h => by
        obtain ⟨hj, rfl⟩ := wordVals_get X n j v h
        have := hw j hj
        by_cases h0 : j = 0
        · subst h0; simpa [Addr.add] using this
        · simpa [Addr.add, h0] using this)
      (fun j hj => by
        obtain ⟨⟨y, hy⟩, _⟩ := hz j (by rwa [wordVals_length] at hj)
        rw [hy]; rfl)
      (fun j hj => (hz j (by rwa [wordVals_length] at hj)).2)
      (fun v hv => by
        simp only [wordVals, List.mem_map] at hv
        obtain ⟨i, _, rfl⟩ := hv
        rfl)
    rw [wordVals_length] at hrun
    refine ⟨_, hrun, ?_, words_setCells b o n X W (fun j hj => ?_), fun _ _ _ h => room_setCells b o n X _ _ _ _ h⟩
    · have := chg_setCells b (wordVals X n) o W
      rwa [wordVals_length] at this
    · obtain ⟨⟨y, hy⟩, _⟩ := hz j hj
      rw [hy]; rfl
theorem wpList_copy_word {ops : Array Oper} {rest : List Oper} {op : Oper} {act : Act} {w : World} {Q : Exit → Act → World → Prop} (hgd : op.guard = none) (d s : Operand) (t1 t2 : TypeId)
    (ho : op.op = .call { callee := .builtin .copy, args := #[d, s], argTypes := #[t1, t2] }) (hu : Tryz.prog.underlying t1 = some (.slice 153))
    (b o nd cd : Nat) (sa : Option Addr) (ns cs n : Nat) (X : Nat → Int) (hd : act.eval d = .slice (some ⟨b, o, none⟩) nd cd) (hs : act.eval s = .slice sa ns cs)
    (hn : n = Nat.min ns nd) (hz : Room w b o n) (hr : Rd w sa n X)
    (h : ∀ w', Chg (zRow b o n) w w' ∧ Words w' b o n X ∧ (∀ b' o' m, Room w b' o' m → Room w' b' o' m) → wpList Tryz.prog ops Q rest (act.put op.dst (.int .i64 n)) w') : wpList Tryz.prog ops Q (op :: rest) act w :=
  wpList_plain hgd fun K hK => by
    obtain ⟨w', hrun, h2⟩ := run_copy_word t1 t2 op.type hu b o nd cd sa ns cs n X w hn hz hr
    unfold Oper.wp execOp
    simp only [ho, resolve, invoke, builtin, Sem.run_bind, Sem.run_pure, Result.andThen_ok, List.map_toArray, List.map_cons, List.map_nil, hd, hs, hrun]
    exact hK _ _ (h w' h2)
theorem wpList_copy_zero {ops : Array Oper} {rest : List Oper} {op : Oper} {act : Act} {w : World} {Q : Exit → Act → World → Prop} (hgd : op.guard = none) (d s : Operand) (t1 t2 : TypeId)
    (ho : op.op = .call { callee := .builtin .copy, args := #[d, s], argTypes := #[t1, t2] }) (hu : Tryz.prog.underlying t1 = some (.slice 153))
    (da : Option Addr) (nd cd : Nat) (sa : Option Addr) (ns cs : Nat) (hd : act.eval d = .slice da nd cd) (hs : act.eval s = .slice sa ns cs)
    (hn : Nat.min ns nd = 0) (h : wpList Tryz.prog ops Q rest (act.put op.dst (.int .i64 0)) w) : wpList Tryz.prog ops Q (op :: rest) act w :=
  wpList_plain hgd fun K hK => by
    have hrun := run_copy_none (P := Tryz.prog) w t1 t2 op.type 153 da sa nd cd ns cs hu size153 hn
    unfold Oper.wp execOp
    simp only [ho, resolve, invoke, builtin, Sem.run_bind, Sem.run_pure, Result.andThen_ok, List.map_toArray, List.map_cons, List.map_nil, hd, hs, hrun]
    exact hK _ _ h
def SetRes (w : World) (az : Option Addr) (zc n : Nat) (X : Nat → Int) (e : Ending) (w' : World) : Prop :=
  ∃ a c, e = .returned (.slice a n c) ∧ n ≤ c ∧ ZOK w' a c ∧ Rd w' a n X ∧ Home w az zc a c ∧ Chg (zAddr az zc) w w'
set_option maxHeartbeats 2000000 in
theorem set_any (az ax : Option Addr) (zl zc xn xc : Nat) (X : Nat → Int) (w : World) (hz : ZOK w az zc) (hx : Rd w ax xn X) (hxc : xn ≤ xc) (hxn : xn < 1099511627776) :
    Calls Tryz.prog 77 #[.slice az zl zc, .slice ax xn xc] w (SetRes w az zc xn X) := by
  have Hz := Lib.hid hz
  have Hx := Lib.hid hx
  clear hz hx
  go_enter Tryz.func77, Tryz.ntmps77
  go_wp2_with fail
  refine (make_any az zl zc xn _ Hz.out (by omega)).mono ?_
  rintro e w1 ⟨a, c, rfl, h1, h2, h3, h4⟩
  have H := Lib.hid (And.intro h1 (And.intro h2 (And.intro h3 h4)))
  clear h1 h2 h3 h4
  by_cases h0 : xn = 0
  · subst h0
    go_wp2_with (with_reducible refine wpList_copy_zero rfl (.tmp 9) (.tmp 10) 120 120 rfl Tryz.underlying120 a 0 c ax 0 xc rfl rfl rfl ?_)
    go_ret
    exact ⟨a, c, rfl, Nat.zero_le _, H.out.2.1, Or.inl rfl, H.out.2.2.1, H.out.2.2.2.mono (fun _ _ _ h => h.elim)⟩
  · obtain ⟨b, o, rfl, hb, hroom⟩ := H.out.2.1.room (by have := H.out.1; omega)
    have Hx1 : Hid (Rd w1 ax xn X) := by
      rcases Hx.out with h | ⟨bx, ox, e, hw⟩
      · exact Or.inl h
      · exact Or.inr ⟨bx, ox, e, hw.chg H.out.2.2.2 (fun _ _ h => h.elim)⟩
    have Hroom := Lib.hid hroom
    clear hroom
    go_wp2_with (with_reducible refine wpList_copy_word rfl (.tmp 9) (.tmp 10) 120 120 rfl Tryz.underlying120 b o xn c ax xn xc xn X rfl rfl (Nat.min_self xn).symm (Hroom.out.le (by have := H.out.1; omega)) Hx1.out ?_; rintro w2 hw2; have HW := Lib.hid hw2; clear hw2)
    go_ret
    obtain ⟨q1, q2, q3⟩ := HW.out
    refine ⟨some ⟨b, o, none⟩, c, rfl, H.out.1, Or.inr ⟨b, o, rfl, hb.chg q1, q3 _ _ _ Hroom.out, H.out.2.1.cap⟩, Or.inr ⟨b, o, rfl, q2⟩, H.out.2.2.1, ?_⟩
    exact (H.out.2.2.2.mono (Z' := zAddr az zc) (fun _ _ _ h => h.elim)).trans q1 (fun bb oo hbb ⟨e1, e2, e3⟩ => H.out.2.2.1.zone bb oo hbb ⟨o, by rw [e1], e2, by have := H.out.1; omega⟩)
theorem and63 (s : Nat) (h : s < 64) : bits BinOp.and IntKind.u64 (s : Int) 63 = s := by
  have h1 : (BitVec.ofInt 64 63).toNat = 2 ^ 6 - 1 := by decide
  have key : (BitVec.ofInt 64 (s : Int) &&& BitVec.ofInt 64 63).toNat = ((s : Int) % ((2 ^ 64 : Nat) : Int)).toNat % 2 ^ 6 := by
    rw [BitVec.toNat_and, BitVec.toNat_ofInt, h1, Nat.and_two_pow_sub_one_eq_mod]
  show IntKind.u64.wrap ((BitVec.ofInt 64 (s : Int) &&& BitVec.ofInt 64 63).toNat : Nat) = _
  rw [key, IntKind.wrap_u64]
  omega
theorem or_nat (a b s : Nat) (ha : a < 2 ^ (64 - s)) (hs : s < 64) (hb : b < 2 ^ s) : bits BinOp.or IntKind.u64 (a : Int) ((b * 2 ^ (64 - s) : Nat) : Int) = ((a + b * 2 ^ (64 - s) : Nat) : Int) := by
  have hp : 2 ^ s * 2 ^ (64 - s) = 2 ^ 64 := by rw [← Nat.pow_add]; congr 1; omega
  have hp1 : 0 < 2 ^ (64 - s) := Nat.pow_pos (by omega)
  have hlt : a + b * 2 ^ (64 - s) < 2 ^ 64 := by
    have : (b + 1) * 2 ^ (64 - s) ≤ 2 ^ s * 2 ^ (64 - s) := Nat.mul_le_mul_right _ hb
    rw [hp, Nat.add_mul] at this
    omega
  have h1 : (BitVec.ofInt 64 (a : Int)).toNat = a := by rw [BitVec.toNat_ofInt]; omega
  have h2 : (BitVec.ofInt 64 ((b * 2 ^ (64 - s) : Nat) : Int)).toNat = b * 2 ^ (64 - s) := by rw [BitVec.toNat_ofInt]; omega
  have key : (BitVec.ofInt 64 (a : Int) ||| BitVec.ofInt 64 ((b * 2 ^ (64 - s) : Nat) : Int)).toNat = a + b * 2 ^ (64 - s) := by
    rw [BitVec.toNat_or, h1, h2, Nat.or_comm, ← Nat.shiftLeft_eq, ← Nat.shiftLeft_add_eq_or_of_lt ha]
    omega
  show IntKind.u64.wrap ((BitVec.ofInt 64 (a : Int) ||| BitVec.ofInt 64 ((b * 2 ^ (64 - s) : Nat) : Int)).toNat : Nat) = _
  rw [key, IntKind.wrap_u64]
  omega
theorem wrap_shl (y : Nat) (s : Nat) (hs : s < 64) : IntKind.u64.wrap ((y : Int) * 2 ^ (64 - s)) = (((y % 2 ^ s) * 2 ^ (64 - s) : Nat) : Int) := by
  have hp : 2 ^ s * 2 ^ (64 - s) = 2 ^ 64 := by rw [← Nat.pow_add]; congr 1; omega
  rw [IntKind.wrap_u64, ← Nat.mul_mod_mul_right, hp]
  have : ((y : Int) * 2 ^ (64 - s)) = ((y * 2 ^ (64 - s) : Nat) : Int) := by push_cast; rfl
  rw [this]; omega
theorem shr_or {x y : Int} {s : Nat} (hx : U64 x) (hy : U64 y) (hs : s < 64) : bits BinOp.or IntKind.u64 (x / 2 ^ s) (IntKind.u64.wrap (y * 2 ^ (64 - s))) = x / 2 ^ s + y % 2 ^ s * 2 ^ (64 - s) := by
  obtain ⟨a, rfl⟩ := Int.eq_ofNat_of_zero_le hx.1
  obtain ⟨b, rfl⟩ := Int.eq_ofNat_of_zero_le hy.1
  have hp : 2 ^ s * 2 ^ (64 - s) = 2 ^ 64 := by rw [← Nat.pow_add]; congr 1; omega
  have ha : a / 2 ^ s < 2 ^ (64 - s) := by
    rw [Nat.div_lt_iff_lt_mul (Nat.pow_pos (by omega)), Nat.mul_comm, hp]
    have := hx.2; omega
  rw [wrap_shl b s hs]
  have := or_nat (a / 2 ^ s) (b % 2 ^ s) s ha hs (Nat.mod_lt _ (Nat.pow_pos (by omega)))
  simp only [Int.natCast_ediv, Int.natCast_emod, Int.natCast_mul, Int.natCast_add, Int.natCast_pow] at this ⊢
  exact this
theorem U64_shr {x : Int} {s : Nat} (hx : U64 x) : U64 (x / 2 ^ s) := by
  have h : (0:Int) < 2 ^ s := Int.pow_pos (by omega)
  refine ⟨Int.ediv_nonneg hx.1 (by omega), Int.lt_of_le_of_lt (Int.ediv_le_self _ hx.1) hx.2⟩
theorem U64_or {x y : Int} {s : Nat} (hx : U64 x) (hy : U64 y) (hs : s < 64) : U64 (x / 2 ^ s + y % 2 ^ s * 2 ^ (64 - s)) := by
  rw [← shr_or hx hy hs]
  exact ⟨by simp only [bits]; rw [IntKind.wrap_u64]; omega, by simp only [bits]; rw [IntKind.wrap_u64]; omega⟩
theorem rsh_step {X Z : Nat → Int} {x y : Int} {k s : Nat} (hs : s < 64) (h : 2 ^ s * val Z k + X 0 % 2 ^ s = val X k + (X k % 2 ^ s) * BB ^ k) (hx : X k = x) (hy : X (k + 1) = y) (hz : Z k = x / 2 ^ s + y % 2 ^ s * 2 ^ (64 - s)) :
    2 ^ s * val Z (k + 1) + X 0 % 2 ^ s = val X (k + 1) + (X (k + 1) % 2 ^ s) * BB ^ (k + 1) := by
  have hp : (2:Int) ^ s * 2 ^ (64 - s) = BB := by rw [← Int.pow_add, show s + (64 - s) = 64 by omega]; rfl
  have hd := Int.mul_ediv_add_emod x (2 ^ s)
  simp only [val, hx, hy, hz, BB_succ] at h ⊢
  grind
theorem rsh_last {X Z : Nat → Int} {x : Int} {k s : Nat} (h : 2 ^ s * val Z k + X 0 % 2 ^ s = val X k + (X k % 2 ^ s) * BB ^ k) (hx : X k = x) (hz : Z k = x / 2 ^ s) :
    2 ^ s * val Z (k + 1) + X 0 % 2 ^ s = val X (k + 1) := by
  have hd := Int.mul_ediv_add_emod x (2 ^ s)
  simp only [val, hx, hz] at h ⊢
  grind
def RshPost (w : World) (bz oz n : Nat) (X : Nat → Int) (s : Nat) (_ : Int) (w' : World) : Prop :=
  ∃ Z, Chg (zRow bz oz n) w w' ∧ Words w' bz oz n Z ∧ WF Z n ∧ 2 ^ s * val Z n + X 0 % 2 ^ s = val X n
set_option maxHeartbeats 2000000 in
theorem rshVU_g_any (bx ox bz oz n cx cz : Nat) (X : Nat → Int) (s : Nat) (w : World) (hn : n < 4611686018427387904) (hn1 : 0 < n) (hX : Words w bx ox n X) (hXw : WF X n) (hz : Room w bz oz n) (hf : Fwd bx ox bz oz n) (hs0 : 0 < s) (hs : s < 64) :
    Calls Tryz.prog 233 #[.slice (some ⟨bz, oz, none⟩) n cz, .slice (some ⟨bx, ox, none⟩) n cx, .int .u64 s] w (OneWord (RshPost w bz oz n X s)) := by
  have hm1 := and63 s hs
  have hm2 := and63 (64 - s) (by omega)
  have hm3 : ((64 - s : Nat) : Int) = 64 - (s : Int) := by omega
  rw [hm3] at hm2
  have hsb : ((s : Int) == 0) = false := by simp; omega
  have hnb : ((n : Int) == 0) = false := by simp; omega
  have hx0 := hX 0 (by omega)
  simp only [Nat.add_zero] at hx0
  have HX := Lib.hid hX
  have HXw := Lib.hid hXw
  have Hz := Lib.hid hz
  have Hf := Lib.hid hf
  clear hX hXw hz hf
  clear hm3
  go_enter Tryz.func233, Tryz.ntmps233
  go_wp2_with fail
  go_loopw [8] (fun si wr => ∃ (k : Nat) (Z : Nat → Int), si = .int .i64 (k + 1) ∧ k + 1 ≤ n ∧ Hid (Chg (zRow bz oz k) w wr ∧ Words wr bz oz k Z ∧ WF Z k ∧ 2 ^ s * val Z k + X 0 % 2 ^ s = val X k + (X k % 2 ^ s) * BB ^ k)) (fun si _ => n - (intOf si).toNat)
  case atStart => exact ⟨0, fun _ => 0, rfl, by omega, Chg.refl _ _, fun i hi => by omega, fun i hi => by omega, by simp [val]⟩
  case round =>
    obtain ⟨k, Z, rfl, hk, H⟩ := hrel
    have hcx := fwd_keep Hf.out hk H.out.1 (HX.out k hk)
    obtain ⟨⟨zk, hzk0⟩, hzf0⟩ := Hz.out k hk
    have hzk1 := H.out.1.isCell (by rw [hzk0]; rfl)
    obtain ⟨zv, hzk⟩ := Option.isSome_iff_exists.1 hzk1
    have hzf := (H.out.1.frozen hzk0 (oz + k)).trans hzf0
    clear hzk0 hzf0 hzk1
    obtain ⟨xk, hxe⟩ : ∃ x, X k = x := ⟨_, rfl⟩
    rw [hxe] at hcx
    have Hxe := Lib.hid hxe
    have hxw : Hid (U64 xk) := by rw [← hxe]; exact HXw.out k hk
    clear hxe
    by_cases hlt : k + 1 < n
    · have hcy := fwd_keep Hf.out hlt (H.out.1.mono (fun _ _ _ hz => ⟨hz.1, hz.2.1, by have := hz.2.2; omega⟩)) (HX.out (k + 1) hlt)
      obtain ⟨yk, hye⟩ : ∃ x, X (k + 1) = x := ⟨_, rfl⟩
      rw [hye] at hcy
      have Hye := Lib.hid hye
      have hyw : Hid (U64 yk) := by rw [← hye]; exact HXw.out (k + 1) hlt
      clear hye
      go_wp2_with fail
      go_region
      go_wp2
      go_roundw
      case rel =>
        have hv := shr_or hxw.out hyw.out hs
        refine ⟨k + 1, upd Z k (xk / 2 ^ s + yk % 2 ^ s * 2 ^ (64 - s)), by go_num, by omega, ?_⟩
        rw [hv]
        refine ⟨(chg_snoc H.out.1 _).drew, H.out.2.1.snoc (by rw [hzk]; rfl), WF_upd H.out.2.2.1 (U64_or hxw.out hyw.out hs), ?_⟩
        exact rsh_step hs (by rw [val_upd]; exact H.out.2.2.2) Hxe.out Hye.out (upd_same _ _ _)
      case measure => simp [intOf]; omega
    · have hkn : n = k + 1 := by omega
      have hb1 : decide (((k:Int) + 1) < (n : Int)) = false := by simp; omega
      go_wp2_with fail
      go_ret
      refine ⟨_, rfl, upd Z k (xk / 2 ^ s), ?_⟩
      rw [hkn]
      refine ⟨chg_snoc H.out.1 _, H.out.2.1.snoc (by rw [hzk]; rfl), WF_upd H.out.2.2.1 (U64_shr hxw.out), ?_⟩
      exact rsh_last (x := xk) (by rw [val_upd]; exact H.out.2.2.2) Hxe.out (upd_same _ _ _)
theorem rshVU_any (bx ox bz oz n cx cz : Nat) (X : Nat → Int) (s : Nat) (w : World) (hn : n < 4611686018427387904) (hn1 : 0 < n) (hX : Words w bx ox n X) (hXw : WF X n) (hz : Room w bz oz n) (hf : Fwd bx ox bz oz n) (hs0 : 0 < s) (hs : s < 64) :
    Calls Tryz.prog 199 #[.slice (some ⟨bz, oz, none⟩) n cz, .slice (some ⟨bx, ox, none⟩) n cx, .int .u64 s] w (OneWord (RshPost w bz oz n X s)) := by
  have H := Lib.hid (rshVU_g_any bx ox bz oz n cx cz X s w hn hn1 hX hXw hz hf hs0 hs)
  clear hX hXw hz hf
  go_enter Tryz.func199, Tryz.ntmps199
  go_wp2_with fail
  refine H.out.mono ?_
  rintro e w1 ⟨c, rfl, hp⟩
  have Hp := Lib.hid hp
  clear hp
  go_wp2
  go_ret
  exact ⟨c, rfl, Hp.out⟩
theorem shr_of_post {v z x0 : Int} {s : Nat} (h : 2 ^ s * z + x0 % 2 ^ s = v) : z = v / 2 ^ s := by
  have hp : (0:Int) < 2 ^ s := Int.pow_pos (by omega)
  have h1 := Int.emod_nonneg x0 (show (2:Int) ^ s ≠ 0 by omega)
  have h2 := Int.emod_lt_of_pos x0 hp
  rw [← h, Int.add_comm, Int.add_mul_ediv_left _ _ (by omega), Int.ediv_eq_zero_of_lt h1 h2]
  omega
theorem room_after {w w' : World} {b o m c : Nat} {Z : Nat → Int} (h : Room w b o c) (hm : m ≤ c) (k : Chg (zRow b o m) w w') (hw : Words w' b o m Z) : Room w' b o c := by
  have h1 : Room w' b o m := hw.room (fun i hi => by
    obtain ⟨⟨z, hz⟩, hf⟩ := h i (by omega)
    rw [k.frozen hz]; exact hf)
  have h2 : Room w' b (o + m) (c - m) := (h.drop m (c - m) (by omega)).chg k (fun i hi ⟨_, _, h3⟩ => by omega)
  have := h1.join h2
  rwa [show m + (c - m) = c by omega] at this
theorem natres_close {w w1 w2 : World} {az : Option Addr} {zc b o c m i : Nat} {Z : Nat → Int} {v : Int}
    (H : m ≤ c ∧ ZOK w1 (some ⟨b, o, none⟩) c ∧ Home w az zc (some ⟨b, o, none⟩) c ∧ Chg zNone w w1 ∧ PB w1 b ∧ Room w1 b o c)
    (k : Chg (zRow b o m) w1 w2) (hw : Words w2 b o m Z) (hwf : WF Z m) (hv : val Z m = v)
    (n1 : i ≤ m) (n2 : ∀ j, i ≤ j → j < m → Z j = 0) (n3 : Norm Z i) : NatRes w az zc v (.returned (.slice (some ⟨b, o, none⟩) i c)) w2 := by
  obtain ⟨q1, q2, q3, q4, q5, q6⟩ := H
  refine ⟨some ⟨b, o, none⟩, i, c, Z, rfl, by omega, Or.inr ⟨b, o, rfl, q5.chg k, room_after q6 q1 k hw, q2.cap⟩, Or.inr ⟨b, o, rfl, hw.le n1⟩, hwf.le n1, n3, ?_, q3, ?_⟩
  · rw [← val_top n1 n2]; exact hv
  · exact (q4.mono (Z' := zAddr az zc) (fun _ _ _ h => h.elim)).trans k (fun bb oo hbb ⟨e1, e2, e3⟩ => q3.zone bb oo hbb ⟨o, by rw [e1], e2, by omega⟩)
theorem Words.upd {w : World} {b o n j : Nat} {Y : Nat → Int} (h : Words w b o n Y) (hj : j < n) (v : Int) : Words (w.setCell ⟨b, o + j, none⟩ (.int .u64 v)) b o n (upd Y j v) := fun i hi => by
  by_cases e : i = j
  · subst e; rw [upd_same]; exact World.cell?_setCell_same' _ _ _ (by rw [h i hi]; rfl)
  · rw [upd_other Y v e, World.cell?_setCell_other w _ _ _ (by intro h; injection h with _ h2 _; omega)]
    exact h i hi
structure Errs (w : World) (eof e1 e2 : Value) : Prop where
  eof : w.cell? ⟨0, 0, none⟩ = some eof
  sep : w.cell? ⟨2, 0, none⟩ = some e1
  dig : w.cell? ⟨3, 0, none⟩ = some e2
theorem Errs.chg {Z : Zone} {w w' : World} {eof e1 e2 : Value} (h : Errs w eof e1 e2) (k : Chg Z w w') (hz : ∀ b, ¬ Z b 0) : Errs w' eof e1 e2 := ⟨k.cell h.eof (hz _), k.cell h.sep (hz _), k.cell h.dig (hz _)⟩
end Go.Proofs.YtmgfajamanakcaaGreatDoor
namespace Go.Proofs.YtmgfajamanakcaaGreatDoor
set_option linter.unusedVariables false
set_option linter.unusedSimpArgs false
end Go.Proofs.YtmgfajamanakcaaGreatDoor
