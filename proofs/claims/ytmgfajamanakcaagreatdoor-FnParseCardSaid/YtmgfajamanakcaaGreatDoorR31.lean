/- Part of the proof of FnParse: what the functions that it reaches do, as contracts. Conditions: those that each theorem names. -/
import Derived.Test.YtmgfajamanakcaaGreatDoorR30
import Derived.Test.YtmgfajamanakcaaGreatDoorR01
import Derived.Test.YtmgfajamanakcaaGreatDoorR04
import Derived.Test.YtmgfajamanakcaaGreatDoorR29
import Derived.Lib.SlBytesRow
namespace Go.Proofs.YtmgfajamanakcaaGreatDoor
set_option linter.unusedVariables false
set_option linter.unusedSimpArgs false
open Go.RowKit
def PiPost (w : World) (s : ByteArray) (e : Ending) (w' : World) : Prop :=
  ∃ (v : Int) (ev : Value), e = .returned (.tuple #[.int .i64 v, ev]) ∧ Chg zNone w w' ∧ ((ev = .nilIface ∧ Lib.parseIntB 64 s.data.toList = .ok v) ∨ ((∃ N : Nat, ev = .iface 297 (.pointer (some ⟨N, 0, none⟩))) ∧ ∀ v, Lib.parseIntB 64 s.data.toList ≠ .ok v))
theorem ParseInt_any (s : ByteArray) (w : World) (hs : s.size < 1048576) (e1 e2 : Value) (h1 : w.cell? ⟨12, 0, none⟩ = some e1) (h2 : w.cell? ⟨13, 0, none⟩ = some e2) (k1 : e1 = .nilIface ∨ ∃ te pe, e1 = .iface te pe) (k2 : e2 = .nilIface ∨ ∃ te pe, e2 = .iface te pe) :
    Calls Tryz.prog 185 #[.string s, .int .i64 10, .int .i64 64] w (PiPost w s) := by
  cases h : Lib.parseIntB 64 s.data.toList
  case ok v =>
    refine (Tryz.strconv_ParseInt_10_at64_ok s (by omega) v h w).mono ?_
    rintro e w' ⟨rfl, hw⟩
    refine ⟨v, .nilIface, rfl, ?_, Or.inl ⟨rfl, h⟩⟩
    rcases hw with rfl | ⟨t, rfl⟩
    · exact Chg.refl _ _
    · exact Chg.of_below (⟨rfl, rfl, rfl, by rw [Lib.bytesWorld_size]; omega, fun j hj => Lib.bytesWorld_at_old w 5 t j hj⟩ : Below w.heap.size w (Lib.bytesWorld w 5 t)) _
  case range =>
    refine (Tryz.strconv_ParseInt_10_at64_range s (by omega) h e2 w h2 k2).mono ?_
    rintro e w' ⟨N, rfl, h3, h4, h5⟩
    exact ⟨_, _, rfl, Chg.of_below h5 _, Or.inr ⟨⟨N, rfl⟩, fun v hv => by rw [h] at hv; cases hv⟩⟩
  refine (Tryz.strconv_ParseInt_10_at64_syntax s (by omega) h e1 w h1 k1).mono ?_
  rintro e w' ⟨N, rfl, h3, h4, h5⟩
  exact ⟨0, _, rfl, Chg.of_below h5 _, Or.inr ⟨⟨N, rfl⟩, fun v hv => by rw [h] at hv; cases hv⟩⟩
set_option maxRecDepth 100000
def bAt (s : ByteArray) (i : Nat) : UInt8 := s.data.toList.getD i 0
theorem bAt_int (s : ByteArray) (i : Nat) : ((bAt s i).toNat : Int) = byteAt s i := rfl
structure ES where
  prev : Int
  inval : Bool
  has : Bool
  ds : List UInt8
def stepE (sep : Bool) (st : ES) (c : UInt8) : Option ES :=
  if 48 ≤ (c.toNat : Int) ∧ (c.toNat : Int) ≤ 57 then some { st with prev := 48, has := true, ds := st.ds ++ [c] }
  else if (c.toNat : Int) = 95 ∧ sep = true then some { st with inval := st.inval || st.prev != 48, prev := 95 }
  else none
def runE (sep : Bool) (s : ByteArray) : Nat → Nat → ES → Nat × ES
  | 0, p, st => (p, st)
  | k + 1, p, st =>
    match stepE sep st (bAt s p) with
    | none => (p, st)
    | some st' => runE sep s k (p + 1) st'
def runX (sep : Bool) (s : ByteArray) (p : Nat) (st : ES) : Nat × ES := runE sep s (s.size - p) p st
theorem runX_end {sep : Bool} {s : ByteArray} {p : Nat} {st : ES} (h : s.size ≤ p) : runX sep s p st = (p, st) := by
  unfold runX; rw [show s.size - p = 0 by omega]; rfl
theorem runX_stop {sep : Bool} {s : ByteArray} {p : Nat} {st : ES} (h : p < s.size) (hs : stepE sep st (bAt s p) = none) : runX sep s p st = (p, st) := by
  unfold runX; rw [show s.size - p = (s.size - (p + 1)) + 1 by omega]; simp only [runE, hs]
theorem runX_step {sep : Bool} {s : ByteArray} {p : Nat} {st st' : ES} (h : p < s.size) (hs : stepE sep st (bAt s p) = some st') : runX sep s p st = runX sep s (p + 1) st' := by
  unfold runX; rw [show s.size - p = (s.size - (p + 1)) + 1 by omega]; simp only [runE, hs]
def expBase (c : Int) : Option Int := if c = 101 ∨ c = 69 then some 10 else if c = 112 ∨ c = 80 then some 2 else none
def expSign (s : ByteArray) (p : Nat) : Nat × List UInt8 :=
  if p < s.size ∧ byteAt s p = 45 then (p + 1, [45]) else if p < s.size ∧ byteAt s p = 43 then (p + 1, []) else (p, [])
structure EScan where
  v : Int
  b : Int
  err : Nat
  p : Nat
def endE (b : Int) (q : Nat) (st : ES) : EScan :=
  if st.has = false then ⟨0, b, 2, q⟩
  else match Lib.parseIntB 64 st.ds with
    | .ok v => ⟨v, b, if st.inval || st.prev == 95 then 1 else 0, q⟩
    | _ => ⟨0, b, 3, q⟩
def scanE (sep : Bool) (s : ByteArray) (p : Nat) : EScan :=
  if p < s.size then
    match expBase (byteAt s p) with
    | none => ⟨0, 10, 0, p⟩
    | some b => let r := runX sep s (expSign s (p + 1)).1 ⟨46, false, false, (expSign s (p + 1)).2⟩; endE b r.1 r.2
  else ⟨0, 10, 0, p⟩
def Dg (w0 w : World) (a : Option Addr) (n c : Nat) (ds : List UInt8) : Prop := n = ds.length ∧ n ≤ c ∧ BZOK w a c ∧ Fresh w0 a ∧ BRd w a n (fun i => ((ds.getD i 0).toNat : Int))
theorem BRd.chg {Z : Zone} {w w' : World} {a : Option Addr} {n c : Nat} {X : Nat → Int} (h : BRd w a n X) (k : Chg Z w w') (hn : n ≤ c) (hz : ∀ b o, zAddr a c b o → ¬ Z b o) : BRd w' a n X := by
  rcases h with h | ⟨b, o, rfl, h⟩
  · exact Or.inl h
  · exact Or.inr ⟨b, o, rfl, h.chg k (fun i hi => hz b (o + i) ⟨o, rfl, by omega, by omega⟩)⟩
theorem Dg.chg {Z : Zone} {w0 w w' : World} {a : Option Addr} {n c : Nat} {ds : List UInt8} (h : Dg w0 w a n c ds) (k : Chg Z w w') (hz : ∀ b o, zAddr a c b o → ¬ Z b o) : Dg w0 w' a n c ds := by
  obtain ⟨h1, h2, h3, h4, h5⟩ := h
  exact ⟨h1, h2, h3.chg k hz, h4, h5.chg k h2 hz⟩
theorem brd_apart {w : World} {br i : Nat} {s : ByteArray} {a : Option Addr} {c : Nat} (h : RdAt w br s i) (hz : BZOK w a c) : ∀ b o, zAddr a c b o → ¬ (b = br ∧ o < 3) := by
  rintro b o ⟨p, rfl, h1, h2⟩ ⟨rfl, h4⟩
  rcases hz with ⟨e, _⟩ | ⟨b', o', e, _, hr, _⟩
  · cases e
  · injection e with e; injection e with e1 e2; subst e1; subst e2
    obtain ⟨⟨x, hx⟩, _⟩ := hr (o - p) (by omega)
    rw [show p + (o - p) = o by omega] at hx
    obtain ⟨r0, r1, ⟨q, r2⟩, _, _⟩ := h
    have : o = 0 ∨ o = 1 ∨ o = 2 := by omega
    rcases this with rfl | rfl | rfl
    · rw [r0] at hx; cases hx
    · rw [r1] at hx; injection hx with hx; injection hx with hx; cases hx
    · rw [r2] at hx; injection hx with hx; injection hx with hx; cases hx
theorem brd_apart' {w : World} {br i : Nat} {s : ByteArray} {a : Option Addr} {c : Nat} (h : RdAt w br s i) (hz : BZOK w a c) : ∀ b o, zAddr a c b o → ¬ zRow br 1 2 b o :=
  fun b o h1 h2 => brd_apart h hz b o h1 ⟨h2.1, by have := h2.2.2; omega⟩
theorem RdAt.chgB {w w' : World} {br i : Nat} {s : ByteArray} {a : Option Addr} {c : Nat} (h : RdAt w br s i) (hz : BZOK w a c) (k : Chg (zAddr a c) w w') : RdAt w' br s i :=
  h.chg k (fun o ho hh => brd_apart h hz br o hh ⟨rfl, ho⟩)
theorem getD_snoc (ds : List UInt8) (c : UInt8) (i : Nat) (hi : i < ds.length + 1) : (((ds ++ [c]).getD i 0).toNat : Int) = upd (fun i => ((ds.getD i 0).toNat : Int)) ds.length (c.toNat : Int) i := by
  by_cases h : i = ds.length
  · subst h
    rw [upd_same]
    simp [List.getD_eq_getElem?_getD]
  · rw [upd_other _ _ h]
    have hlt : i < ds.length := by omega
    simp [List.getD_eq_getElem?_getD, List.getElem?_append_left hlt]
theorem Dg.app {w0 w : World} {a : Option Addr} {n c : Nat} {ds : List UInt8} (h : Dg w0 w a n c ds) (u : UInt8) (hw : w0.heap.size ≤ w.heap.size) (hn : n < 1048577) (o : Obj) :
    BZOK (w.alloc o) a c ∧ BRd (w.alloc o) a n (fun i => ((ds.getD i 0).toNat : Int)) ∧ n ≤ c ∧ n < 1099511627776 ∧ ∀ a' c' w', BAppRes (w.alloc o) a n c (fun i => ((ds.getD i 0).toNat : Int)) (u.toNat : Int) a' c' w' → Dg w0 w' a' (n + 1) c' (ds ++ [u]) ∧ Chg (zAddr a c) w w' := by
  have kal : Chg zNone w (w.alloc o) := (Chg.refl _ _).alloc o
  obtain ⟨h1, h2, h3, h4, h5⟩ := h.chg kal (fun _ _ _ h => h)
  refine ⟨h3, h5, h2, by omega, fun a' c' w' k => ⟨⟨by simp; omega, k.1, k.2.1, h4.home k.2.2.2.1 (by have := kal.size; omega), ?_⟩, ?_⟩⟩
  · rcases k.2.2.1 with e | ⟨b, o', e, hw1⟩
    · omega
    · refine Or.inr ⟨b, o', e, hw1.congr (fun i hi => ?_)⟩
      rw [getD_snoc ds u i (by omega), h1]
  · exact ((Chg.refl (zAddr a c) w).alloc o).trans k.2.2.2.2 (fun _ _ _ h => h)
theorem Dg.text {w0 w : World} {a : Option Addr} {n c : Nat} {ds : List UInt8} (h : Dg w0 w a n c ds) (h0 : ds ≠ []) : (convert 100 9 (.slice a n c)).run Tryz.prog w = .ok (.string ⟨ds.toArray⟩) w := by
  obtain ⟨h1, h2, h3, h4, h5⟩ := h
  have hl : 0 < ds.length := List.length_pos_iff.2 h0
  rcases h5 with e | ⟨b, o, rfl, hw⟩
  · omega
  · have hs : (⟨ds.toArray⟩ : ByteArray).size = n := by rw [h1]; rfl
    have hb : Lib.Bytes w b o ⟨ds.toArray⟩ := fun i hi => by
      have hi' : i < ds.length := by rw [← h1, ← hs]; exact hi
      rw [hw i (by omega)]
      congr 2
      have : (⟨ds.toArray⟩ : ByteArray)[i] = ds[i] := rfl
      rw [this]
      show ((ds.getD i 0).toNat : Int) = _
      rw [List.getD_eq_getElem?_getD, List.getElem?_eq_getElem hi']
      rfl
    have := Lib.run_convert_whole (P := Tryz.prog) w 100 5 9 Tryz.underlying100 Tryz.underlying5 Tryz.underlying9 b o ⟨ds.toArray⟩ hb c
    rwa [hs] at this
end Go.Proofs.YtmgfajamanakcaaGreatDoor
