/- Part of the proof of FnParse: what the functions that it reaches do, as contracts. Conditions: those that each theorem names. -/
import Derived.Test.YtmgfajamanakcaaGreatDoorD24
import Derived.Test.YtmgfajamanakcaaGreatDoorD30
import Derived.Test.YtmgfajamanakcaaGreatDoorD31
import Derived.StillTailTactics
namespace Go.Proofs.YtmgfajamanakcaaGreatDoor
set_option linter.unusedVariables false
set_option linter.unusedSimpArgs false
open Go Go.RowKit
set_option maxRecDepth 100000
def zCv (sb so sl : Nat) (qa : Option Addr) (qc p : Nat) (d : Option SD) : Zone := fun b o => zRow sb so sl b o ∨ zAddr qa qc b o ∨ zStk p d b o
def TabK (K : Nat → Prop) (w : World) (ta : Option Addr) (t : Nat) : Prop :=
  ∃ tb, ta = some ⟨tb, 0, none⟩ ∧ K tb ∧ ∀ j, j < t → ∃ a m c X nd L w0, DivE w0 w tb j a m c X nd L ∧ ∀ b o, a = some ⟨b, o, none⟩ → K b
structure QIn (K : Nat → Prop) (w : World) (sb p : Nat) (d : Option SD) (qa : Option Addr) (qn qc : Nat) (X : Nat → Int) (V : Int) : Prop where
  le : qn ≤ qc
  z : ZOK w qa qc
  rd : Rd w qa qn X
  wf : WF X qn
  nm : Norm X qn
  v : val X qn = V
  off : ∀ b o, qa = some ⟨b, o, none⟩ → ¬ K b ∧ b ≠ sb ∧ SepB p d b
  sm : qn < 22
structure CvIn (K : Nat → Prop) (w : World) (sb so sl sc p : Nat) (d : Option SD) : Prop where
  room : BRoom w sb so sl
  le : sl ≤ sc
  cap : sc < 9223372036854775808
  kb : ∀ b, K b → b < w.heap.size ∧ SepB p d b
  ks : ¬ K sb
  ss : SepB p d sb
  sz : sb < w.heap.size
  s : Stk w p d
  sl0 : stkL d < 34359738368
  k4 : K 4
  k9 : K 9
  c4 : w.cell? ⟨4, 0, none⟩ = some (.int .i64 40)
  c9 : w.cell? ⟨9, 0, none⟩ = some (.int .i64 8)
def ConvP (t : Nat) (w : World) (sb so sl : Nat) (qa : Option Addr) (qc p : Nat) (d : Option SD) (V : Int) (e : Ending) (w' : World) : Prop :=
  ∃ d' B, e = .returned (.tuple #[]) ∧ Stk w' p d' ∧ StkFrom w d d' ∧ stkL d' = stkL d ∧ BRoom w' sb so sl ∧ BWords w' sb so sl B ∧ DigW B 0 sl V ∧ (t = 0 → ZOK w' qa qc) ∧ Chg (zCv sb so sl qa qc p d) w w'
structure CvT (K : Nat → Prop) (w wc : World) (sb so sl h : Nat) (V Vq : Int) (qa0 : Option Addr) (qc0 : Nat) (qa : Option Addr) (qn qc : Nat) (X B : Nat → Int) (p : Nat) (d0 d : Option SD) : Prop where
  q : QIn K wc sb p d qa qn qc X Vq
  hh : Home w qa0 qc0 qa qc
  hl : h ≤ sl
  vq : Vq = V / 10 ^ (sl - h)
  lt : Vq < 10 ^ h
  room : BRoom wc sb so sl
  bw : ∀ i, h ≤ i → i < sl → wc.cell? ⟨sb, so + i, none⟩ = some (.int .u8 (B i))
  dg : DigW B h sl (V % 10 ^ (sl - h))
  s : Stk wc p d
  sf : StkFrom w d0 d
  sl' : stkL d = stkL d0
  k : Chg (zCv sb so sl qa0 qc0 p d0) w wc
structure L3 (wc wr : World) (sb so h : Nat) (qa : Option Addr) (qc : Nat) (n : Nat) (Y B : Nat → Int) (t i : Nat) (q Vq : Int) : Prop where
  le : n ≤ qc
  z : ZOK wr qa qc
  rd : Rd wr qa n Y
  wf : WF Y n
  nm : Norm Y n
  v : val Y n = q
  sm : n < 1000
  ne : ∀ b o, qa = some ⟨b, o, none⟩ → b ≠ sb
  room : BRoom wr sb so h
  bw : ∀ j, i ≤ j → j < h → wr.cell? ⟨sb, so + j, none⟩ = some (.int .u8 (B j))
  ch : Chunk B h Vq t i q
  k : Chg (fun b o => zRow sb so h b o ∨ zAddr qa qc b o) wc wr
structure L4 (w5 wr : World) (sb so h : Nat) (B : Nat → Int) (t j i : Nat) (r Vq : Int) : Prop where
  ch : InChunk B h Vq t j i r
  room : BRoom wr sb so h
  bw : ∀ m, i ≤ m → m < h → wr.cell? ⟨sb, so + m, none⟩ = some (.int .u8 (B m))
  r0 : U64 r
  k : Chg (zRow sb so h) w5 wr
theorem Home.trans {w w1 : World} {a b c : Option Addr} {ac bc cc : Nat} (h : Home w a ac b bc) (k : Home w1 b bc c cc) (hw : w.heap.size ≤ w1.heap.size) : Home w a ac c cc := by
  rcases k with ⟨e1, e2⟩ | ⟨x, o, e, hb⟩
  · rw [e1, e2]; exact h
  · exact Or.inr ⟨x, o, e, Nat.le_trans hw hb⟩
theorem DivE.chg {Z : Zone} {w0 w w1 : World} {tb j : Nat} {a : Option Addr} {m c : Nat} {X : Nat → Int} {nd L : Nat} (h : DivE w0 w tb j a m c X nd L) (k : Chg Z w w1) (h1 : ∀ o, ¬ Z tb o) (h2 : ∀ b o o', a = some ⟨b, o, none⟩ → ¬ Z b o') : DivE w0 w1 tb j a m c X nd L :=
  ⟨k.cell h.c0 (h1 _), k.cell h.c1 (h1 _), k.cell h.c2 (h1 _), h.z.chg k (by rintro b o ⟨p, e, _⟩; exact h2 b p o e), rd_far h.rd k (by rintro b o i e _; exact h2 b o _ e), h.wf, h.le, h.nm, h.v, h.n0, h.lo, h.m16, h.l0, h.l1, h.l2, h.fr, h.ne, h.first⟩
structure RIn (K : Nat → Prop) (w wc : World) (sb p : Nat) (d : Option SD) (qa ra : Option Addr) (rc : Nat) : Prop where
  z : ZOK wc ra rc
  off : ∀ b o, ra = some ⟨b, o, none⟩ → ¬ K b ∧ b ≠ sb ∧ SepB p d b
  ne : ∀ b o b' o', qa = some ⟨b, o, none⟩ → ra = some ⟨b', o', none⟩ → b ≠ b'
  fr : Fresh w ra
theorem QIn.far {K : Nat → Prop} {w w1 : World} {sb p : Nat} {d : Option SD} {qa : Option Addr} {qn qc : Nat} {X : Nat → Int} {V : Int} (h : QIn K w sb p d qa qn qc X V) (k : Chg zNone w w1) : QIn K w1 sb p d qa qn qc X V :=
  ⟨h.le, h.z.chg k (fun _ _ _ h => h), rd_far h.rd k (fun _ _ _ _ _ h => h), h.wf, h.nm, h.v, h.off, h.sm⟩
theorem Stk.far {w w1 : World} {p : Nat} {d : Option SD} (h : Stk w p d) (k : Chg zNone w w1) : Stk w1 p d := h.chg k (fun h => h) (fun s _ => ⟨fun h => h, fun _ _ _ h => h.elim⟩)
theorem CvIn.far {K : Nat → Prop} {w w1 : World} {sb so sl sc p : Nat} {d : Option SD} (h : CvIn K w sb so sl sc p d) (k : Chg zNone w w1) : CvIn K w1 sb so sl sc p d :=
  ⟨h.room.chg k (fun _ _ h => h), h.le, h.cap, fun b hb => ⟨Nat.lt_of_lt_of_le (h.kb b hb).1 k.size, (h.kb b hb).2⟩, h.ks, h.ss, Nat.lt_of_lt_of_le h.sz k.size, h.s.far k, h.sl0, h.k4, h.k9, k.cell h.c4 (fun h => h), k.cell h.c9 (fun h => h)⟩
theorem TabK.far {K : Nat → Prop} {w w1 : World} {ta : Option Addr} {t : Nat} (h : TabK K w ta t) (k : Chg zNone w w1) : TabK K w1 ta t := by
  obtain ⟨tb, e, hK, hE⟩ := h
  refine ⟨tb, e, hK, fun j hj => ?_⟩
  obtain ⟨a, m, c, X, nd, L, w0, E, hk⟩ := hE j hj
  exact ⟨a, m, c, X, nd, L, w0, E.chg k (fun _ h => h) (fun _ _ _ _ h => h), hk⟩
theorem DigW.shift {X : Nat → Int} {n : Nat} {V : Int} (h : DigW X 0 n V) (k : Nat) : DigW (fun i => X (i - k)) k (k + n) V := by
  obtain ⟨h1, h2, h3, h4⟩ := h
  refine ⟨by omega, h2, ?_, fun j hj => ?_⟩
  · rw [show k + n - k = n - 0 by omega]; exact h3
  · show X (k + n - 1 - j - k) = _
    rw [show k + n - 1 - j - k = n - 1 - j by omega]
    exact h4 j (by omega)
theorem mod_mul_add (V a b : Int) (ha : 0 < a) (hb : 0 < b) : V % (a * b) = V / a % b * a + V % a := by
  have e1 := Int.emod_add_mul_ediv V a
  have e2 := Int.emod_add_mul_ediv (V / a) b
  have a0 := Int.emod_nonneg V (show a ≠ 0 by omega)
  have a1 := Int.emod_lt_of_pos V ha
  have b0 := Int.emod_nonneg (V / a) (show b ≠ 0 by omega)
  have b1 := Int.emod_lt_of_pos (V / a) hb
  have e3 : V = (V / a % b * a + V % a) + a * b * (V / a / b) := by
    conv => lhs; rw [← e1]
    conv => lhs; rw [← e2]
    generalize V / a % b = d
    generalize V / a / b = q
    generalize V % a = r
    grind
  have h0 := Int.mul_nonneg b0 (Int.le_of_lt ha)
  have h1 : V / a % b * a ≤ (b - 1) * a := Int.mul_le_mul_of_nonneg_right (by omega) (Int.le_of_lt ha)
  rw [Int.sub_mul, Int.one_mul, Int.mul_comm b a] at h1
  conv => lhs; rw [e3]
  rw [Int.add_mul_emod_self_left, Int.emod_eq_of_lt (by omega) (by omega)]
theorem CvT.far {K : Nat → Prop} {w wc w1 : World} {sb so sl h : Nat} {V Vq : Int} {qa0 : Option Addr} {qc0 : Nat} {qa : Option Addr} {qn qc : Nat} {X B : Nat → Int} {p : Nat} {d0 d : Option SD} (hx : CvT K w wc sb so sl h V Vq qa0 qc0 qa qn qc X B p d0 d) (k : Chg zNone wc w1) : CvT K w w1 sb so sl h V Vq qa0 qc0 qa qn qc X B p d0 d :=
  ⟨hx.q.far k, hx.hh, hx.hl, hx.vq, hx.lt, hx.room.chg k (fun _ _ h => h), fun i h1 h2 => k.cell (hx.bw i h1 h2) (fun h => h), hx.dg, hx.s.far k, hx.sf, hx.sl', hx.k.trans k (fun _ _ _ h => h.elim)⟩
theorem RIn.far {K : Nat → Prop} {w wc w1 : World} {sb p : Nat} {d : Option SD} {qa ra : Option Addr} {rc : Nat} (h : RIn K w wc sb p d qa ra rc) (k : Chg zNone wc w1) : RIn K w w1 sb p d qa ra rc :=
  ⟨h.z.chg k (fun _ _ _ h => h), h.off, h.ne, h.fr⟩
theorem dgin_of {K : Nat → Prop} {w wc w0 : World} {sb so sl sc h : Nat} {V Vq : Int} {qa0 : Option Addr} {qc0 : Nat} {qa ra : Option Addr} {qn qc rc : Nat} {X B : Nat → Int} {p : Nat} {d0 d : Option SD} {tb i : Nat} {a : Option Addr} {m c : Nat} {XX : Nat → Int} {nd nb : Nat}
    (hC : CvIn K w sb so sl sc p d0) (hx : CvT K w wc sb so sl h V Vq qa0 qc0 qa qn qc X B p d0 d) (hz : ∀ b o, K b → ¬ zCv sb so sl qa0 qc0 p d0 b o) (hr : RIn K w wc sb p d qa ra rc) (E : DivE w0 wc tb i a m c XX nd nb) (hk : ∀ b o, a = some ⟨b, o, none⟩ → K b) : DGin wc qa qc ra rc qa qn qc a m c p d X XX := by
  have hm0 : 0 < m := by
    rcases Nat.eq_zero_or_pos m with h | h
    · subst h; have := ten_pos nd; rw [← E.v] at this; exact absurd this (by simp [val])
    · exact h
  have hKS : ∀ b, K b → SepB p d b := fun b hb => (hC.kb b hb).2.from hx.sf (hC.kb b hb).1
  refine ⟨hx.q.z, hr.z, ⟨hx.q.rd, hx.q.wf, hx.q.le, by have := hx.q.sm; omega, hx.q.z.aok⟩, ⟨E.rd, E.wf, E.le, by have := E.m16; omega, E.z.aok⟩, hx.q.nm, ?_, hm0, by have := hx.q.sm; omega, hx.s, by rw [hx.sl']; exact hC.sl0, hx.k.cell hC.c4 (hz 4 0 hC.k4), hr.ne, fun b o e => (hx.q.off b o e).2.2, fun b o e => (hr.off b o e).2.2, ?_, ?_, ?_, ?_, Or.inl rfl, (hKS 4 hC.k4).z 0, ?_⟩
  · rcases E.nm with h | h
    · omega
    · exact h
  · intro b o j e _
    exact (hx.q.off b o e).2.2.z _
  · intro b o j e _
    exact (hKS b (hk b o e)).z _
  · rintro b o j e _ ⟨p', e', _⟩
    exact hr.ne b o b p' e e' rfl
  · rintro b o j e _ ⟨p', e', _⟩
    exact (hr.off b p' e').1 (hk b o e)
  · rintro ⟨p', e', _⟩
    exact (hr.off 4 p' e').1 hC.k4
def K2 (K : Nat → Prop) (qa : Option Addr) : Nat → Prop := fun b => K b ∨ ∃ o, qa = some ⟨b, o, none⟩
theorem conv_split {K : Nat → Prop} {w wc w5 : World} {sb so sl sc h : Nat} {V Vq : Int} {qa0 : Option Addr} {qc0 : Nat} {qa ra : Option Addr} {qn qc rc : Nat} {X B : Nat → Int} {p : Nat} {d0 d d2 : Option SD} {nd m : Nat} {qa2 ra2 : Option Addr} {qn2 qc2 rn2 rc2 : Nat} {Q R : Nat → Int}
    (hC : CvIn K w sb so sl sc p d0) (hz : ∀ b o, K b → ¬ zCv sb so sl qa0 qc0 p d0 b o) (hV0 : 0 ≤ V) (hx : CvT K w wc sb so sl h V Vq qa0 qc0 qa qn qc X B p d0 d) (hr : RIn K w wc sb p d qa ra rc) (hle : (10 : Int) ^ nd ≤ Vq) (hm : (10 : Int) ^ nd < BB ^ m) (hm16 : m ≤ 16)
    (s1 : Stk w5 p d2) (s2 : StkFrom wc d d2) (s3 : stkL d2 = stkL d)
    (q : qn2 ≤ qc2 ∧ ZOK w5 qa2 qc2 ∧ Rd w5 qa2 qn2 Q ∧ WF Q qn2 ∧ Norm Q qn2 ∧ val Q qn2 = Vq / 10 ^ nd ∧ Home wc qa qc qa2 qc2)
    (r : rn2 ≤ rc2 ∧ ZOK w5 ra2 rc2 ∧ Rd w5 ra2 rn2 R ∧ WF R rn2 ∧ Norm R rn2 ∧ val R rn2 = Vq % 10 ^ nd ∧ Home wc ra rc ra2 rc2)
    (k : Chg (zDL qa qc ra rc p d) wc w5) (ne : ∀ b o b' o', qa2 = some ⟨b, o, none⟩ → ra2 = some ⟨b', o', none⟩ → b ≠ b') (se : SepE p d2 (.returned (.tuple #[.slice qa2 qn2 qc2, .slice ra2 rn2 rc2]))) :
    nd < h ∧ Chg (zCv sb so sl qa0 qc0 p d0) w w5 ∧ QIn K w5 sb p d2 qa2 qn2 qc2 Q (Vq / 10 ^ nd) ∧ RIn K w w5 sb p d2 qa2 ra2 rc2 ∧ Home w qa0 qc0 qa2 qc2 ∧ StkFrom w d0 d2 ∧ stkL d2 = stkL d0 ∧ BRoom w5 sb so sl ∧ (∀ i, h ≤ i → i < sl → w5.cell? ⟨sb, so + i, none⟩ = some (.int .u8 (B i))) ∧
      CvIn (K2 K qa2) w5 sb (so + (h - nd)) nd (sc - (h - nd)) p d2 ∧ QIn (K2 K qa2) w5 sb p d2 ra2 rn2 rc2 R (Vq % 10 ^ nd) ∧ rn2 ≤ m := by
  obtain ⟨q1, q2, q3, q4, q5, q6, q7⟩ := q
  obtain ⟨r1, r2, r3, r4, r5, r6, r7⟩ := r
  have hVq0 : 0 ≤ Vq := by have := ten_pos nd; omega
  have hndh : nd < h := by
    rcases Nat.lt_or_ge nd h with h1 | h1
    · exact h1
    · have := ipow_le (show (1 : Int) ≤ 10 by decide) h1
      have := hx.lt
      omega
  have hsw : w.heap.size ≤ wc.heap.size := hx.k.size
  have hs5 : wc.heap.size ≤ w5.heap.size := k.size
  have hqoff : ∀ b o, qa2 = some ⟨b, o, none⟩ → ¬ K b ∧ b ≠ sb ∧ SepB p d2 b := by
    intro b o e
    have h3 := se _ _ b o qn2 qc2 rfl (Or.inl (by rw [e]))
    rcases q7 with ⟨e1, _⟩ | ⟨b', o', e', hb⟩
    · have := hx.q.off b o (e1 ▸ e); exact ⟨this.1, this.2.1, h3⟩
    · rw [e'] at e; injection e with e; injection e with e1 _
      refine ⟨fun hK => ?_, ?_, h3⟩
      · have := (hC.kb b hK).1; omega
      · have := hC.sz; omega
  have hroff : ∀ b o, ra2 = some ⟨b, o, none⟩ → ¬ K b ∧ b ≠ sb ∧ SepB p d2 b := by
    intro b o e
    have h3 := se _ _ b o rn2 rc2 rfl (Or.inr (by rw [e]))
    rcases r7 with ⟨e1, _⟩ | ⟨b', o', e', hb⟩
    · have := hr.off b o (e1 ▸ e); exact ⟨this.1, this.2.1, h3⟩
    · rw [e'] at e; injection e with e; injection e with e1 _
      refine ⟨fun hK => ?_, ?_, h3⟩
      · have := (hC.kb b hK).1; omega
      · have := hC.sz; omega
  have hzone : ∀ b o, b < w.heap.size → zDL qa qc ra rc p d b o → zCv sb so sl qa0 qc0 p d0 b o := by
    rintro b o hb ((hz | ⟨p', e, _⟩) | hz)
    · exact Or.inr (Or.inl (hx.hh.zone b o hb hz))
    · exact absurd rfl (fresh_far hr.fr hb e)
    · exact Or.inr (Or.inr (hx.sf.zone b o hb hz))
  have k5 := hx.k.trans k hzone
  have hss : SepB p d sb := hC.ss.from hx.sf hC.sz
  have hsbz : ∀ o, ¬ zDL qa qc ra rc p d sb o := by
    rintro o ((⟨p', e, _⟩ | ⟨p', e, _⟩) | hz)
    · exact (hx.q.off sb p' e).2.1 rfl
    · exact (hr.off sb p' e).2.1 rfl
    · exact hss.z o hz
  have hroom5 : BRoom w5 sb so sl := hx.room.chg k (fun _ _ => hsbz _)
  have hq2n : qn2 ≤ qn := norm_le (N := qn) q4 q5 (by
    rw [q6]
    have h1 := val_lt hx.q.wf
    rw [hx.q.v] at h1
    have := Int.ediv_le_self (10 ^ nd) hVq0
    omega)
  have hrlt := Int.emod_lt_of_pos Vq (ten_pos nd)
  have hr2n : rn2 ≤ m := norm_le (N := m) r4 r5 (by rw [r6]; omega)
  have hfrom : StkFrom w d0 d2 := hx.sf.trans s2 hsw
  refine ⟨hndh, k5, ⟨q1, q2, q3, q4, q5, q6, hqoff, by have := hx.q.sm; omega⟩, ⟨r2, hroff, ne, fresh_home hr.fr r7 hsw⟩, hx.hh.trans q7 hsw, hfrom, by rw [s3, hx.sl'], hroom5, fun i h1 h2 => k.cell (hx.bw i h1 h2) (hsbz _), ⟨?_, ?_, ?_, ?_, ?_, ?_, ?_, s1, ?_, Or.inl hC.k4, Or.inl hC.k9, k5.cell hC.c4 (hz 4 0 hC.k4), k5.cell hC.c9 (hz 9 0 hC.k9)⟩, ⟨r1, r2, r3, r4, r5, r6, ?_, by omega⟩, hr2n⟩
  · exact (hroom5.le hx.hl).drop (h - nd) nd (by omega)
  · have := hC.le; have := hx.hl; omega
  · have := hC.cap; omega
  · rintro b (hb | ⟨o, e⟩)
    · exact ⟨by have := (hC.kb b hb).1; omega, (hC.kb b hb).2.from hfrom (hC.kb b hb).1⟩
    · exact ⟨q2.lt e, (hqoff b o e).2.2⟩
  · rintro (hb | ⟨o, e⟩)
    · exact hC.ks hb
    · exact (hqoff sb o e).2.1 rfl
  · exact hC.ss.from hfrom hC.sz
  · have := hC.sz; omega
  · rw [s3, hx.sl']; exact hC.sl0
  · intro b o e
    refine ⟨?_, (hroff b o e).2⟩
    rintro (hb | ⟨o', e'⟩)
    · exact (hroff b o e).1 hb
    · exact ne b o' b o e' e rfl
theorem conv_glue {K : Nat → Prop} {w w5 W w6 : World} {sb so sl sc h : Nat} {V Vq : Int} {qa0 : Option Addr} {qc0 : Nat} {B : Nat → Int} {p : Nat} {d0 d2 : Option SD} {nd : Nat} {qa2 ra2 : Option Addr} {qn2 qc2 rc2 : Nat} {Q : Nat → Int} {e : Ending}
    (hC : CvIn K w sb so sl sc p d0) (hV0 : 0 ≤ V) (hl : h ≤ sl) (hvq : Vq = V / 10 ^ (sl - h)) (hlt : Vq < 10 ^ h) (hdg : DigW B h sl (V % 10 ^ (sl - h))) (hndh : nd < h)
    (k5 : Chg (zCv sb so sl qa0 qc0 p d0) w w5) (hq : QIn K w5 sb p d2 qa2 qn2 qc2 Q (Vq / 10 ^ nd)) (hr : RIn K w w5 sb p d2 qa2 ra2 rc2) (hh : Home w qa0 qc0 qa2 qc2) (hf : StkFrom w d0 d2) (hsl : stkL d2 = stkL d0) (hroom : BRoom w5 sb so sl) (hbw : ∀ i, h ≤ i → i < sl → w5.cell? ⟨sb, so + i, none⟩ = some (.int .u8 (B i)))
    (hc2 : CvIn (K2 K qa2) w5 sb (so + (h - nd)) nd (sc - (h - nd)) p d2) (kW : Chg zNone w5 W) {t' : Nat} (hP : ConvP t' W sb (so + (h - nd)) nd ra2 rc2 p d2 (Vq % 10 ^ nd) e w6) :
    ∃ B' d3, e = .returned (.tuple #[]) ∧ CvT K w w6 sb so sl (h - nd) V (Vq / 10 ^ nd) qa0 qc0 qa2 qn2 qc2 Q B' p d0 d3 ∧ (t' = 0 → RIn K w w6 sb p d3 qa2 ra2 rc2) := by
  obtain ⟨d3, B3, rfl, t1, t2, t3, t4, t5, t6, t8, t7⟩ := hP
  have k6 : Chg (zCv sb (so + (h - nd)) nd ra2 rc2 p d2) w5 w6 := (kW.mono (Z' := zCv sb (so + (h - nd)) nd ra2 rc2 p d2) (fun _ _ _ h => h.elim)).trans t7 (fun _ _ _ h => h)
  have hs5 := k5.size
  have hsW := kW.size
  have hs6 := k6.size
  have hqz : ∀ b o, qa2 = some ⟨b, o, none⟩ → ∀ o', ¬ zCv sb (so + (h - nd)) nd ra2 rc2 p d2 b o' := by
    rintro b o e o' (hz | ⟨p', e', _⟩ | hz)
    · exact (hq.off b o e).2.1 hz.1
    · exact hr.ne b o b p' e e' rfl
    · exact (hq.off b o e).2.2.z o' hz
  have hfrom : StkFrom w d0 d3 := hf.trans t2 (by omega)
  have hsb : ∀ i, h ≤ i → ¬ zCv sb (so + (h - nd)) nd ra2 rc2 p d2 sb (so + i) := by
    rintro i hi (hz | ⟨p', e', _⟩ | hz)
    · have := hz.2.2; omega
    · exact (hr.off sb p' e').2.1 rfl
    · exact hc2.ss.z _ hz
  have hsb2 : ∀ i, i < h - nd → ¬ zCv sb (so + (h - nd)) nd ra2 rc2 p d2 sb (so + i) := by
    rintro i hi (hz | ⟨p', e', _⟩ | hz)
    · have := hz.2.1; omega
    · exact (hr.off sb p' e').2.1 rfl
    · exact hc2.ss.z _ hz
  have hqsep : ∀ b o, qa2 = some ⟨b, o, none⟩ → SepB p d3 b := fun b o e => (hq.off b o e).2.2.from t2 (Nat.lt_of_lt_of_le (hq.z.lt e) hsW)
  have hrsep : ∀ b o, ra2 = some ⟨b, o, none⟩ → SepB p d3 b := fun b o e => (hr.off b o e).2.2.from t2 (Nat.lt_of_lt_of_le (hr.z.lt e) hsW)
  have hsum : sl - (h - nd) = (sl - h) + nd := by omega
  refine ⟨fun i => if i < h then B3 (i - (h - nd)) else B i, d3, rfl, ⟨⟨hq.le, hq.z.chg k6 ?_, rd_far hq.rd k6 ?_, hq.wf, hq.nm, hq.v, fun b o e => ⟨(hq.off b o e).1, (hq.off b o e).2.1, hqsep b o e⟩, hq.sm⟩, hh, by omega, ?_, ?_, ?_, ?_, ?_, t1, hfrom, by rw [t3, hsl], ?_⟩, fun ht => ⟨t8 ht, fun b o e => ⟨(hr.off b o e).1, (hr.off b o e).2.1, hrsep b o e⟩, hr.ne, hr.fr⟩⟩
  · rintro b o ⟨p', e, _⟩; exact hqz b p' e o
  · rintro b o i e _; exact hqz b o e _
  · rw [hvq, hsum, Int.ediv_ediv_of_nonneg (Int.le_of_lt (ten_pos _)), ← Int.pow_add]
  · rw [Int.ediv_lt_iff_lt_mul (ten_pos nd), ← Int.pow_add, show h - nd + nd = h by omega]; exact hlt
  · intro i hi
    by_cases h1 : i < h - nd
    · obtain ⟨⟨x, hx⟩, hf⟩ := hroom i hi
      exact ⟨⟨x, k6.cell hx (hsb2 i h1)⟩, by rw [k6.frozen hx]; exact hf⟩
    · by_cases h2 : i < h
      · have := t4 (i - (h - nd)) (by omega)
        rwa [show so + (h - nd) + (i - (h - nd)) = so + i by omega] at this
      · obtain ⟨⟨x, hx⟩, hf⟩ := hroom i hi
        exact ⟨⟨x, k6.cell hx (hsb i (by omega))⟩, by rw [k6.frozen hx]; exact hf⟩
  · intro i h1 h2
    by_cases h3 : i < h
    · simp only [if_pos h3]
      have := t5 (i - (h - nd)) (by omega)
      rwa [show so + (h - nd) + (i - (h - nd)) = so + i by omega] at this
    · simp only [if_neg h3]
      exact k6.cell (hbw i (by omega) h2) (hsb i (by omega))
  · have s1 := t6.shift (h - nd)
    rw [show h - nd + nd = h by omega] at s1
    have s2 := (s1.congr (Y := fun i => if i < h then B3 (i - (h - nd)) else B i) (fun m h1 h2 => if_pos h2)).join (hdg.congr (Y := fun i => if i < h then B3 (i - (h - nd)) else B i) (fun m h1 h2 => if_neg (by omega)))
    rw [hsum, Int.pow_add, mod_mul_add _ _ _ (ten_pos _) (ten_pos _), ← hvq]
    exact s2
  · refine k5.trans k6 ?_
    rintro b o hb (hz | ⟨p', e', _⟩ | hz)
    · exact Or.inl ⟨hz.1, by have := hz.2.1; omega, by have := hz.2.2; omega⟩
    · exact absurd rfl (fresh_far hr.fr hb e')
    · exact Or.inr (Or.inr (hf.zone b o hb hz))
def ConvAll (t : Nat) : Prop := ∀ (K : Nat → Prop) (qa : Option Addr) (qn qc : Nat) (X : Nat → Int) (V : Int) (sb so sl sc p : Nat) (d : Option SD) (ta : Option Addr) (tc : Nat) (w : World)
    (hc : CvIn K w sb so sl sc p d) (hq : QIn K w sb p d qa qn qc X V) (h0 : 0 ≤ V) (hV : V < 10 ^ sl) (ht : t ≤ 2) (htc : t ≤ tc) (hT : (ta = none ∧ t = 0) ∨ (TabK K w ta t ∧ (t = 0 → qn ≤ 8))),
    Calls Tryz.prog 203 #[.slice qa qn qc, .pointer (some ⟨p, 0, none⟩), .slice (some ⟨sb, so, none⟩) sl sc, .int .u64 10, .int .i64 19, .int .u64 10000000000000000000, .slice ta t tc] w (ConvP t w sb so sl qa qc p d V)
set_option maxHeartbeats 8000000 in
theorem conv_step (t : Nat) (IH : ∀ t', t' < t → ConvAll t') : ConvAll t := by
  intro K qa qn qc X V sb so sl sc p d ta tc w hc hq h0 hV ht htc hT
  have HIH := Lib.hid IH
  clear IH
  have HC := Lib.hid hc
  have HQ := Lib.hid hq
  have HT := Lib.hid hT
  have HV := Lib.hid (And.intro h0 hV)
  clear hc hq hT h0 hV
  go_enter Tryz.func203, Tryz.ntmps203
  go_upto_if 25 with fail
  go_cut [0, 2, 14, 15, 16, 17, 18] (fun s0 s2 s14 s15 s16 s17 s18 wc => ∃ h Vq qa' qn' qc' X' B d', s0 = .slice qa' qn' qc' ∧ s2 = .slice (some ⟨sb, so, none⟩) h sc ∧ (t = 0 → qa' = qa ∧ qc' = qc) ∧ Hid (CvT K w wc sb so sl h V Vq qa qc qa' qn' qc' X' B p d d'))
  case first =>
    rcases HT.out with ⟨hta, ht0⟩ | ⟨hTab, ht8⟩
    · subst hta
      subst ht0
      go_wp2_with fail
      go_meet
      have hx := HC.out
      have hd : DigW (fun _ => (0 : Int)) sl sl (V % 10 ^ (sl - sl)) := by
        have : V % 10 ^ (sl - sl) = 0 := by rw [Nat.sub_self, Int.pow_zero, Int.emod_one]
        rw [this]
        exact DigW.nil
      exact ⟨sl, V, qa, qn, qc, X, fun _ => 0, d, rfl, rfl, fun _ => ⟨rfl, rfl⟩, ⟨HQ.out, Or.inl ⟨rfl, rfl⟩, Nat.le_refl _, by rw [Nat.sub_self]; simp, HV.out.2, hx.room, fun i h1 h2 => by omega, hd, hx.s, StkFrom.refl, rfl, Chg.refl _ _⟩⟩
    · obtain ⟨tb, hta, hKtb, hE⟩ := hTab
      subst hta
      have HE := Lib.hid (And.intro hKtb (And.intro hE ht8))
      clear hKtb hE ht8
      go_wp2_with fail
      go_loopg [0, 2, 14, 15] V.toNat (fun g s0 s2 s14 s15 wc => ∃ h Vq qa' qn' qc' X' B d' ra rl rc, s0 = .slice qa' qn' qc' ∧ s2 = .slice (some ⟨sb, so, none⟩) h sc ∧ s14 = .slice ra rl rc ∧ g = Vq.toNat ∧ ((t = 0 ∧ s15 = .int .i64 (-1) ∧ qn' ≤ 8 ∧ qa' = qa ∧ qc' = qc) ∨ ∃ j : Nat, j < t ∧ s15 = .int .i64 (j : Int)) ∧ Hid (CvT K w wc sb so sl h V Vq qa qc qa' qn' qc' X' B p d d' ∧ (qn' ≤ 8 ∨ RIn K w wc sb p d' qa' ra rc)))
      case atStart =>
        have hx := HC.out
        have hd : DigW (fun _ => (0 : Int)) sl sl (V % 10 ^ (sl - sl)) := by
          have : V % 10 ^ (sl - sl) = 0 := by rw [Nat.sub_self, Int.pow_zero, Int.emod_one]
          rw [this]
          exact DigW.nil
        refine ⟨sl, V, qa, qn, qc, X, fun _ => 0, d, none, 0, 0, rfl, rfl, rfl, rfl, ?_, ⟨HQ.out, Or.inl ⟨rfl, rfl⟩, Nat.le_refl _, by rw [Nat.sub_self]; simp, HV.out.2, hx.room, fun i h1 h2 => by omega, hd, hx.s, StkFrom.refl, rfl, Chg.refl _ _⟩, Or.inr ⟨Or.inl ⟨rfl, rfl⟩, fun _ _ e => (by cases e), fun _ _ _ _ _ e => (by cases e), Or.inl rfl⟩⟩
        by_cases ht0 : t = 0
        · exact Or.inl ⟨ht0, by rw [ht0]; rfl, HE.out.2.2 ht0, rfl, rfl⟩
        · exact Or.inr ⟨t - 1, by omega, by rw [show ((t - 1 : Nat) : Int) = (t : Int) - 1 by omega]⟩
      case round =>
        obtain ⟨h, Vq, qa', qn', qc', X', B, d', ra, rl, rc, rfl, rfl, rfl, hg, hidx, HX⟩ := hrel
        obtain ⟨w1, hw1⟩ : ∃ x, x = wr := ⟨_, rfl⟩
        subst hw1
        obtain ⟨g0, hg0⟩ : ∃ x, x = gk := ⟨_, rfl⟩
        subst hg0
        have kK : Hid (∀ b o v, K b → w.cell? ⟨b, o, none⟩ = some v → w1.cell? ⟨b, o, none⟩ = some v) := fun b o v hb hv => HX.out.1.k.cell hv (by
          rintro (hz | ⟨p', e, _⟩ | hz)
          · exact HC.out.ks (hz.1 ▸ hb)
          · exact (HQ.out.off b p' e).1 hb
          · exact (HC.out.kb b hb).2.z o hz)
        have c9 := kK.out 9 0 _ HC.out.k9 HC.out.c9
        by_cases hq8 : qn' ≤ 8
        · have d1 : decide ((qn' : Int) > 8) = false := by simp; omega
          rcases hidx with ⟨ht0, rfl, _, hqq⟩ | ⟨j, hj, rfl⟩
          · go_wp2_with fail
            go_meet
            exact ⟨h, Vq, qa', qn', qc', X', B, d', rfl, rfl, fun _ => hqq, HX.out.1⟩
          · go_wp2_with fail
            go_meet
            exact ⟨h, Vq, qa', qn', qc', X', B, d', rfl, rfl, fun h => absurd h (by omega), HX.out.1⟩
        · have d1 : decide ((qn' : Int) > 8) = true := by simp; omega
          rcases hidx with ⟨_, _, h8, _⟩ | ⟨j, hj, rfl⟩
          · exact absurd h8 hq8
          have HTE : Hid (∀ j, j < t → ∃ a m c X nd L w0, DivE w0 w1 tb j a m c X nd L ∧ ∀ b o, a = some ⟨b, o, none⟩ → K b) := fun j hj => by
            obtain ⟨a, m, c, X, nd, L, w0, e, hk⟩ := HE.out.2.1 j hj
            have hz : ∀ b o, K b → ¬ zCv sb so sl qa qc p d b o := by
              rintro b o hb (hz | ⟨p', e, _⟩ | hz)
              · exact HC.out.ks (hz.1 ▸ hb)
              · exact (HQ.out.off b p' e).1 hb
              · exact (HC.out.kb b hb).2.z o hz
            exact ⟨a, m, c, X, nd, L, w0, e.chg HX.out.1.k (fun o => hz tb o HE.out.1) (fun b o o' e' => hz b o' (hk b o e')), hk⟩
          have hq9 : BB ^ 8 ≤ Vq := by
            have h1 := norm_ge HX.out.1.q.wf HX.out.1.q.nm (by omega)
            have h2 := ipow_le (show (1 : Int) ≤ BB by decide) (show 8 ≤ qn' - 1 by omega)
            rw [HX.out.1.q.v] at h1
            omega
          have HQ9 := Lib.hid hq9
          clear hq9 kK
          have HBl := Lib.hid (bitLen_any qa' qn' qc' X' w1 HX.out.1.q.rd HX.out.1.q.wf (by omega) (by have := HX.out.1.q.sm; omega) (by
            rcases HX.out.1.q.nm with h | h
            · omega
            · exact h))
          go_wp2_with fail
          refine HBl.out.mono ?_
          rintro e w2 ⟨L, rfl, l0, l1, l2, l3, rfl⟩
          rw [HX.out.1.q.v] at l2 l3
          have HL := Lib.hid (And.intro l0 (And.intro l2 l3))
          clear l0 l1 l2 l3
          go_upto_block 2 with fail
          go_cut [15] (fun s15 wc => wc = w2 ∧ ∃ j' : Nat, j' ≤ j ∧ s15 = .int .i64 (j' : Int))
          case first => as_aux_lemma =>
            go_wp2_with fail
            go_loopg [15] j (fun g s15 wc => wc = w2 ∧ s15 = .int .i64 (g : Nat) ∧ g ≤ j)
            case atStart => exact ⟨rfl, rfl, Nat.le_refl _⟩
            case round =>
              obtain ⟨rfl, rfl, hgj⟩ := hrel
              by_cases hg0 : 0 < gk
              · have d2 : decide ((gk : Int) > 0) = true := by simp; omega
                obtain ⟨i', hi'⟩ : ∃ i', gk = i' + 1 := ⟨gk - 1, by omega⟩
                have e0 : ((gk : Int) - 1) = (i' : Int) := by omega
                have wi : wrap64 (i' : Int) = (i' : Int) := by unfold wrap64; omega
                have e1 : (0 : Int) ≤ (i' : Int) := by omega
                have e2 : (i' : Int) < (t : Int) := by omega
                obtain ⟨a, m, c, XX, nd, nb, w0, E, hEk⟩ := HTE.out i' (by omega)
                have c1 := E.c1
                have Hi' := Lib.hid hi'
                have Hgj := Lib.hid hgj
                by_cases hb : (L : Int) / 2 < (nb : Int)
                · have d3 : decide ((nb : Int) > (L : Int) / 2) = true := by simp; omega
                  clear hi' E hEk
                  go_wp2_with fail
                  go_roundg i'
                  case measure => have := Hi'.out; omega
                  case rel => exact ⟨by simp, rfl, by have := Hi'.out; have := Hgj.out; omega⟩
                · have d3 : decide ((nb : Int) > (L : Int) / 2) = false := by simp; omega
                  clear hi' E hEk
                  go_wp2_with fail
                  go_meet
                  exact ⟨by simp, gk, Hgj.out, rfl⟩
              · have d2 : decide ((gk : Int) > 0) = false := by simp; omega
                obtain rfl : gk = 0 := by omega
                go_wp2_with fail
                go_meet
                exact ⟨by simp, 0, by omega, rfl⟩
          case rest =>
            obtain ⟨rfl, j', hj', rfl⟩ := hcut
            obtain ⟨wa, hwa⟩ : ∃ x, x = wc := ⟨_, rfl⟩
            subst hwa
            have hjt : j' < t := by omega
            obtain ⟨a, m, c, XX, nd, nb, w0, E, hEk⟩ := HTE.out j' hjt
            have HEj := Lib.hid E
            have c0 := E.c0
            have c1 := E.c1
            have e1 : (0 : Int) ≤ (j' : Int) := by omega
            have e2 : (j' : Int) < (t : Int) := by omega
            clear E
            go_upto_region 8 with fail
            go_cut [67] (fun s67 wc2 => ∃ b, s67 = .bool b ∧ (b = true → 0 < j') ∧ (b = false → (10 : Int) ^ nd ≤ Vq) ∧ Chg zNone wa wc2)
            case first => as_aux_lemma =>
              by_cases hnb : (L : Int) ≤ (nb : Int)
              · have d3 : decide ((nb : Int) ≥ (L : Int)) = true := by simp; omega
                have hj0 : 0 < j' := by
                  apply Nat.pos_of_ne_zero
                  intro h0
                  have h1 := HEj.out.first h0
                  have h2 := val_lt HEj.out.wf
                  have h3 := ipow_le (show (1 : Int) ≤ BB by decide) h1
                  have h4 := HEj.out.l1
                  have h5 := HEj.out.v
                  have h6 := HQ9.out
                  have h7 := HL.out.2.2
                  have h8 := ipow_le (show (1 : Int) ≤ 2 by decide) (show L - 1 ≤ nb - 1 by omega)
                  have h9 : (2 : Int) ^ L = 2 ^ (L - 1) * 2 := by rw [← Int.pow_succ]; congr 1; have := HL.out.1; omega
                  have hev : BB ^ 8 = 2 ^ 512 := by rw [BB_pow]
                  have h10 : (2 : Int) ^ (L - 1) < 2 ^ 512 := by omega
                  have h11 : (2 : Int) ^ 512 < 2 ^ L := by omega
                  have h12 : L - 1 < 512 := by
                    rcases Nat.lt_or_ge (L - 1) 512 with h | h
                    · exact h
                    · have := ipow_le (show (1 : Int) ≤ 2 by decide) h; omega
                  have h13 := ipow_le (show (1 : Int) ≤ 2 by decide) (show L ≤ 512 by omega)
                  omega
                have HCm := Lib.hid (cmp_any a qa' m c qn' qc' XX X' wa ⟨HEj.out.rd, HEj.out.wf, HEj.out.le, by have := HEj.out.m16; omega, HEj.out.z.aok⟩ ⟨HX.out.1.q.rd, HX.out.1.q.wf, HX.out.1.q.le, by have := HX.out.1.q.sm; omega, HX.out.1.q.z.aok⟩ HEj.out.nm HX.out.1.q.nm)
                go_wp2_with fail
                refine HCm.out.mono ?_
                rintro e w3 ⟨rfl, kd, rfl⟩
                rw [HEj.out.v, HX.out.1.q.v]
                by_cases hcm : (10 : Int) ^ nd < Vq
                · have hcv : cmpV ((10 : Int) ^ nd) Vq = -1 := by unfold cmpV; rw [if_pos hcm]
                  rw [hcv]
                  go_wp2_with fail
                  go_meet
                  exact ⟨false, rfl, fun h => (by cases h), fun _ => Int.le_of_lt hcm, (Chg.refl _ _).drewN kd⟩
                · obtain ⟨cv, hcv⟩ : ∃ cv, cmpV ((10 : Int) ^ nd) Vq = cv := ⟨_, rfl⟩
                  have hc0 : 0 ≤ cv := by rw [← hcv]; unfold cmpV; rw [if_neg hcm]; split <;> omega
                  have d4 : decide (cv ≥ 0) = true := by simp; omega
                  rw [hcv]
                  go_wp2_with fail
                  go_meet
                  exact ⟨true, rfl, fun _ => hj0, fun h => (by cases h), (Chg.refl _ _).drewN kd⟩
              · have d3 : decide ((nb : Int) ≥ (L : Int)) = false := by simp; omega
                go_wp2_with fail
                go_meet
                refine ⟨false, rfl, fun h => (by cases h), fun _ => ?_, Chg.refl _ _⟩
                have h1 := HEj.out.l2
                have h2 := HL.out.2.1
                have h3 := ipow_le (show (1 : Int) ≤ 2 by decide) (show nb ≤ L - 1 by omega)
                omega
            case rest =>
              obtain ⟨b67, rfl, hb1, hb2, k67⟩ := hcut
              obtain ⟨wc2, hwc2⟩ : ∃ x, x = wc := ⟨_, rfl⟩
              subst hwc2
              go_upto_if 67 with fail
              go_cut [15] (fun s15 wc3 => wc3 = wc2 ∧ ∃ i : Nat, s15 = .int .i64 (i : Int) ∧ i < t ∧ ((i = j' ∧ (10 : Int) ^ nd ≤ Vq) ∨ (i = 0 ∧ 0 < j')))
              case first => as_aux_lemma =>
                cases b67 with
                | true =>
                  have hj0 := hb1 rfl
                  have hjj : j' = 1 := by omega
                  have e0 : ((j' : Int) - 1) = 0 := by omega
                  go_wp2_with fail
                  go_meet
                  exact ⟨rfl, 0, rfl, by omega, Or.inr ⟨rfl, hj0⟩⟩
                | false =>
                  go_wp2_with fail
                  go_meet
                  exact ⟨rfl, j', rfl, hjt, Or.inl ⟨rfl, hb2 (by simp)⟩⟩
              case rest =>
                obtain ⟨hw3, i, rfl, hit, hi⟩ := hcut
                subst hw3
                obtain ⟨wc2, hwc2⟩ : ∃ x, x = wc := ⟨_, rfl⟩
                subst hwc2
                have HTE2 : ∃ a m c XX nd nb w0, DivE w0 wc2 tb i a m c XX nd nb ∧ (∀ b o, a = some ⟨b, o, none⟩ → K b) ∧ (10 : Int) ^ nd ≤ Vq := by
                  rcases hi with ⟨rfl, hle⟩ | ⟨rfl, _⟩
                  · exact ⟨a, m, c, XX, nd, nb, w0, HEj.out.chg k67 (fun _ h => h) (fun _ _ _ _ h => h), hEk, hle⟩
                  · obtain ⟨a, m, c, XX, nd, nb, w0, E, hk⟩ := HTE.out 0 hit
                    refine ⟨a, m, c, XX, nd, nb, w0, E.chg k67 (fun _ h => h) (fun _ _ _ _ h => h), hk, ?_⟩
                    have h1 := E.first rfl
                    have h2 := val_lt E.wf
                    have h3 := ipow_le (show (1 : Int) ≤ BB by decide) h1
                    have h5 := E.v
                    have h6 := HQ9.out
                    omega
                clear hi hb1 hb2 hEk c0 c1 e1 e2
                obtain ⟨a, m, c, XX, nd, nb, w0, E, hEk, hle⟩ := HTE2
                have HE2 := Lib.hid (And.intro E (And.intro hEk hle))
                have c0 := E.c0
                have c2 := E.c2
                have e1 : (0 : Int) ≤ (i : Int) := by omega
                have e2 : (i : Int) < (t : Int) := by omega
                have hRI := HX.out.2.resolve_left hq8
                have hz : ∀ b o, K b → ¬ zCv sb so sl qa qc p d b o := by
                  rintro b o hb (hz | ⟨p', e, _⟩ | hz)
                  · exact HC.out.ks (hz.1 ▸ hb)
                  · exact (HQ.out.off b p' e).1 hb
                  · exact (HC.out.kb b hb).2.z o hz
                have hX2 := HX.out.1.far k67
                have hR2 := hRI.far k67
                have hDG := dgin_of HC.out hX2 hz hR2 E hEk
                have HDv : Hid (Calls Tryz.prog 102 #[.slice qa' qn' qc', .pointer (some ⟨p, 0, none⟩), .slice ra rl rc, .slice qa' qn' qc', .slice a m c] wc2 (DLRes wc2 qa' qc' ra rc p d' Vq (10 ^ nd))) := by
                  have := div_any qa' ra qa' a qn' qc' rl rc qn' qc' m c p d' X' XX wc2 hDG (by have := E.m16; omega)
                  rw [hX2.q.v, E.v] at this
                  exact this
                have HX2 := Lib.hid (And.intro hX2 (And.intro hR2 hz))
                clear E hEk hle hRI hz hX2 hR2 hDG
                go_wp2_with fail
                refine HDv.out.mono ?_
                rintro e w5 ⟨d2, s1, s2, s3, ⟨qa2, qn2, qc2, Q, ra2, rn2, rc2, R, rfl, r1, r2, r3, r4⟩, r5⟩
                have hsp := conv_split HC.out HX2.out.2.2 HV.out.1 HX2.out.1 HX2.out.2.1 HE2.out.2.2 (by rw [← HE2.out.1.v]; exact val_lt HE2.out.1.wf) HE2.out.1.m16 s1 s2 s3 r1 r2 r3 r4 r5
                have k25 : ∀ b o v, K b → wc2.cell? ⟨b, o, none⟩ = some v → w5.cell? ⟨b, o, none⟩ = some v := fun b o v hb hv => by
                  refine r3.cell hv ?_
                  rintro ((⟨p', e, _⟩ | ⟨p', e, _⟩) | hz)
                  · exact (HX2.out.1.q.off b p' e).1 hb
                  · exact (HX2.out.2.1.off b p' e).1 hb
                  · exact ((HC.out.kb b hb).2.from HX2.out.1.sf (HC.out.kb b hb).1).z o hz
                have kz25 : ∀ b o, K b → ¬ zDL qa' qc' ra rc p d' b o := by
                  rintro b o hb ((⟨p', e, _⟩ | ⟨p', e, _⟩) | hz)
                  · exact (HX2.out.1.q.off b p' e).1 hb
                  · exact (HX2.out.2.1.off b p' e).1 hb
                  · exact ((HC.out.kb b hb).2.from HX2.out.1.sf (HC.out.kb b hb).1).z o hz
                have hTb : TabK (K2 K qa2) w5 (some ⟨tb, 0, none⟩) i := by
                  refine ⟨tb, rfl, Or.inl HE.out.1, fun j2 hj2 => ?_⟩
                  obtain ⟨a, m, c, XX, nd, nb, w0, E, hk⟩ := HTE.out j2 (by omega)
                  exact ⟨a, m, c, XX, nd, nb, w0, (E.chg k67 (fun _ h => h) (fun _ _ _ _ h => h)).chg r3 (fun o => kz25 tb o HE.out.1) (fun b o o' e' => kz25 b o' (hk b o e')), fun b o e => Or.inl (hk b o e)⟩
                have HSp := Lib.hid hsp
                have HTb := Lib.hid hTb
                have c2' := k25 tb _ _ HE.out.1 c2
                clear hsp s1 s2 s3 r1 r2 r3 r4 r5 hTb c0 c2 k25 kz25
                obtain ⟨h', hh'⟩ : ∃ h', h' = h - nd := ⟨_, rfl⟩
                have hnh : nd < h := HSp.out.1
                have eh : ((h : Int) - (nd : Int)) = (h' : Int) := by omega
                have HH := Lib.hid hh'
                have e3 : (0 : Int) ≤ (h' : Int) := by omega
                have e4 : (h' : Int) ≤ (h : Int) := by omega
                have wi : wrap64 (h' : Int) = (h' : Int) := by unfold wrap64; have := HX.out.1.hl; have := HC.out.le; have := HC.out.cap; omega
                have HRec : Hid (∀ W, Chg zNone w5 W → Calls Tryz.prog 203 #[.slice ra2 rn2 rc2, .pointer (some ⟨p, 0, none⟩), .slice (some ⟨sb, so + h', none⟩) nd (sc - h'), .int .u64 10, .int .i64 19, .int .u64 10000000000000000000, .slice (some ⟨tb, 0, none⟩) i tc] W (ConvP i W sb (so + h') nd ra2 rc2 p d2 (Vq % 10 ^ nd))) := fun W k => by
                  obtain ⟨p1, p2, p3, p4, p5, p6, p7, p8, p9, p10, p11, p12⟩ := HSp.out
                  rw [← hh'] at p10
                  refine HIH.out i hit (K2 K qa2) ra2 rn2 rc2 R (Vq % 10 ^ nd) sb (so + h') nd (sc - h') p d2 (some ⟨tb, 0, none⟩) tc W (p10.far k) (p11.far k) (Int.emod_nonneg _ (by have := ten_pos nd; omega)) (Int.emod_lt_of_pos _ (ten_pos nd)) (by omega) (by omega) (Or.inr ⟨HTb.out.far k, fun hi0 => ?_⟩)
                  have := HE2.out.1.first hi0
                  omega
                have e5 : ¬ (sc = h') := by clear wi; have := HE2.out.1.n0; have := HX.out.1.hl; have := HC.out.le; omega
                have e8 : (h' : Int) ≤ (sc : Int) := by clear wi; have := HX.out.1.hl; have := HC.out.le; omega
                have e6 : h - h' = nd := by clear wi; omega
                have e7 : (i : Int) ≤ (tc : Int) := by clear wi; omega
                clear hh'
                go_wp2_with fail
                refine wp_region_noPanic ?_
                go_still_tail 11, (by kernel_rfl)
                go_wp2_with fail
                refine (HRec.out w5.drew (Chg.refl _ _).drew).mono ?_
                rintro e w6 hP
                have hgl : ∃ B' d3, e = .returned (.tuple #[]) ∧ CvT K w w6 sb so sl h' V (Vq / 10 ^ nd) qa qc qa2 qn2 qc2 Q B' p d d3 ∧ (i = 0 → RIn K w w6 sb p d3 qa2 ra2 rc2) := by
                  obtain ⟨p1, p2, p3, p4, p5, p6, p7, p8, p9, p10, p11, p12⟩ := HSp.out
                  rw [HH.out] at hP ⊢
                  exact conv_glue HC.out HV.out.1 HX.out.1.hl HX.out.1.vq HX.out.1.lt HX.out.1.dg p1 p2 p3 p4 p5 p6 p7 p8 p9 p10 (Chg.refl _ _).drew hP
                obtain ⟨B', d3, rfl, hT6, hR6⟩ := hgl
                have HG6 := Lib.hid (And.intro hT6 hR6)
                clear hP hT6 hR6
                have HIdx := Lib.hid (And.intro e1 e2)
                clear e5 e6 e7 eh c2' e1 e2 e4 wi c9
                go_wp2_with fail
                refine NoPanic.normal ?_
                go_wp2_with fail
                go_roundg (Vq / 10 ^ nd).toNat
                case measure =>
                  have h1 := HE2.out.2.2
                  have h2 := ipow_le (show (1 : Int) ≤ 10 by decide) HE2.out.1.n0
                  have h3 : (10 : Int) ^ 1 = 10 := by decide
                  have h4 : Vq / 10 ^ nd < Vq := Int.ediv_lt_self_of_pos_of_ne_one (by omega) (by omega)
                  have h5 : 0 ≤ Vq / 10 ^ nd := Int.ediv_nonneg (by omega) (by omega)
                  omega
                case rel =>
                  refine ⟨h', Vq / 10 ^ nd, qa2, qn2, qc2, Q, B', d3, ra2, rn2, rc2, rfl, rfl, rfl, rfl, Or.inr ⟨i, hit, rfl⟩, HG6.out.1, ?_⟩
                  by_cases hi0 : i = 0
                  · exact Or.inr (HG6.out.2 hi0)
                  · left
                    have hq := HG6.out.1.q
                    refine norm_le (N := 8) hq.wf hq.nm ?_
                    rw [hq.v, Int.ediv_lt_iff_lt_mul (ten_pos nd)]
                    have h1 := val_lt HX.out.1.q.wf
                    rw [HX.out.1.q.v] at h1
                    have h2 := ipow_le (show (1 : Int) ≤ BB by decide) (show qn' ≤ 21 by have := HX.out.1.q.sm; omega)
                    have h3 := ipow_le (show (1 : Int) ≤ 10 by decide) (show 304 ≤ nd by have := HE2.out.1.lo; omega)
                    have h4 : BB ^ 13 ≤ (10 : Int) ^ 304 := by decide +kernel
                    have h5 : BB ^ 8 * BB ^ 13 ≤ BB ^ 8 * 10 ^ nd := Int.mul_le_mul_of_nonneg_left (by omega) (Int.le_of_lt (Int.pow_pos (by decide)))
                    rw [← Int.pow_add, show (8 : Nat) + 13 = 21 from rfl] at h5
                    omega
  case rest => as_aux_lemma =>
    obtain ⟨h, Vq, qa', qn', qc', X', B, d', rfl, rfl, hqq, HX⟩ := hcut
    go_wp2_with fail
    have h0 := HV.out.1
    have hVq0 : 0 ≤ Vq := by rw [HX.out.vq]; exact Int.ediv_nonneg h0 (Int.le_of_lt (ten_pos _))
    go_loopg [0, 19, 20] Vq.toNat (fun g s0 s19 s20 wr => ∃ n Y B2 t i q, s0 = .slice qa' n qc' ∧ s19 = .int .i64 (i : Nat) ∧ g = q.toNat ∧ Hid (L3 wc wr sb so h qa' qc' n Y B2 t i q Vq))
    case atStart =>
      have hx := HX.out
      refine ⟨qn', X', B, 0, h, Vq, rfl, rfl, rfl, ⟨hx.q.le, hx.q.z, hx.q.rd, hx.q.wf, hx.q.nm, hx.q.v, by have := hx.q.sm; omega, fun b o e => (hx.q.off b o e).2.1, hx.room.le hx.hl, fun j h1 h2 => by omega, Chunk.start hVq0, Chg.refl _ _⟩⟩
    case round =>
      obtain ⟨n, Y, B2, t1, i, q, rfl, rfl, hg, HL⟩ := hrel
      obtain ⟨w3, hw3⟩ : ∃ x, x = wr := ⟨_, rfl⟩
      subst hw3
      obtain ⟨g0, hg0⟩ : ∃ x, x = gk := ⟨_, rfl⟩
      subst hg0
      by_cases hn0 : 0 < n
      · have d1 : decide ((n : Int) > 0) = true := by simp; omega
        have hq0 : q ≠ 0 := by
          have := norm_zero HL.out.wf HL.out.nm
          rw [HL.out.v, decide_eq_true hn0] at this
          simpa using this.symm
        have HW : Hid (Calls Tryz.prog 155 #[.slice qa' n qc', .slice qa' n qc', .int .u64 10000000000000000000] w3 (DivWHere w3 qa' qc' (val Y n) 10000000000000000000)) := by
          have hN : NatIn w3 qa' n qc' Y := ⟨HL.out.rd, HL.out.wf, HL.out.le, by have := HL.out.sm; omega, HL.out.z.aok⟩
          obtain ⟨b0, o0, e0, _⟩ := hN.words hn0
          have hZ := HL.out.z
          rw [e0] at hN hZ ⊢
          exact divW_here b0 o0 n qc' Y 10000000000000000000 w3 hZ hN HL.out.nm hn0 (by omega) (by omega)
        have hsz3 : sb < w3.heap.size := Nat.lt_of_lt_of_le HC.out.sz (Nat.le_trans HX.out.k.size HL.out.k.size)
        have hin := HL.out.ch.into hVq0 HX.out.lt hq0
        have Hin := Lib.hid hin
        clear hin
        go_wp2_with fail
        refine HW.out.mono ?_
        rintro e w5 ⟨n2, Y2, rfl, g1, g2, g3, g4, g5, g6, g8⟩
        rw [HL.out.v] at g6
        rw [HL.out.v]
        obtain ⟨r, hr⟩ : ∃ r, q % 10000000000000000000 = r := ⟨_, rfl⟩
        rw [hr]
        have HA := Lib.hid (And.intro g1 (And.intro g2 (And.intro g3 (And.intro g4 (And.intro g5 (And.intro g6 g8))))))
        have Hr := Lib.hid hr
        clear g1 g2 g3 g4 g5 g6 g8 hr
        go_wp2_with fail
        go_loopg [19, 20, 21, 22] 19 (fun g s19 s20 s21 s22 wr => ∃ B3 j i r, s19 = .int .i64 (i : Nat) ∧ s20 = .int .u64 r ∧ s21 = .int .i64 (j : Nat) ∧ g + j = 19 ∧ Hid (L4 w5 wr sb so h B3 t1 j i r Vq))
        case atStart =>
          refine ⟨B2, 0, i, r, rfl, rfl, rfl, rfl, ⟨?_, ?_, ?_, ?_, Chg.refl _ _⟩⟩
          · have := Hin.out
            rwa [show (10 : Int) ^ 19 = 10000000000000000000 by decide, Hr.out] at this
          · exact HL.out.room.chg HA.out.2.2.2.2.2.2 (by rintro m hm ⟨p', e, _⟩; exact HL.out.ne _ p' e rfl)
          · intro m h1 h2
            exact HA.out.2.2.2.2.2.2.cell (HL.out.bw m h1 h2) (by rintro ⟨p', e, _⟩; exact HL.out.ne _ p' e rfl)
          · rw [← Hr.out]; exact ⟨Int.emod_nonneg _ (by decide), by have := Int.emod_lt_of_pos q (show (0 : Int) < 10000000000000000000 by decide); omega⟩
        case round =>
          obtain ⟨B3, j, i2, r2, rfl, rfl, rfl, hgj, H4⟩ := hrel
          by_cases hj : j < 19
          · have d2 : decide ((j : Int) < 19) = true := by simp; omega
            by_cases hi : 0 < i2
            · have d3 : decide ((i2 : Int) > 0) = true := by simp; omega
              obtain ⟨i', hi'⟩ : ∃ i', i2 = i' + 1 := ⟨i2 - 1, by omega⟩
              have e0 : ((i2 : Int) - 1) = (i' : Int) := by omega
              have hlt : i' < h := by have := H4.out.ch.hij; omega
              have e1 : (0 : Int) ≤ (i' : Int) := by omega
              have e2 : (i' : Int) < (h : Int) := by omega
              have hr0 := H4.out.r0
              have wi : wrap64 (i' : Int) = (i' : Int) := by unfold wrap64; have := HX.out.hl; have := HC.out.le; have := HC.out.cap; omega
              obtain ⟨t0, ht0⟩ : ∃ t0, IntKind.u64.wrap (r2.tdiv 10) = t0 := ⟨_, rfl⟩
              have ht1 : t0 = r2 / 10 := by rw [← ht0, Int.tdiv_eq_ediv_of_nonneg hr0.1, IntKind.wrap_u64]; have := hr0.1; have := hr0.2; omega
              have w1 : IntKind.u64.wrap (t0 * 10) = t0 * 10 := by rw [IntKind.wrap_u64]; have := hr0.1; have := hr0.2; omega
              obtain ⟨dg, hdg⟩ : ∃ dg, IntKind.u64.wrap (r2 - t0 * 10) = dg := ⟨_, rfl⟩
              have hdg1 : dg = r2 - r2 / 10 * 10 := by rw [← hdg, IntKind.wrap_u64]; have := hr0.1; have := hr0.2; omega
              have hdb : 0 ≤ dg ∧ dg ≤ 9 := by have := hr0.1; omega
              obtain ⟨bv, hbv⟩ : ∃ bv, (48 + dg) % 256 = bv := ⟨_, rfl⟩
              have hbv1 : bv = 48 + (r2 - r2 / 10 * 10) := by omega
              obtain ⟨⟨old, hold⟩, hfz⟩ := H4.out.room i' hlt
              have HD := Lib.hid (And.intro hi' (And.intro hlt (And.intro hr0 (And.intro ht1 hbv1))))
              have Hold := Lib.hid hold
              clear hi' hr0 hdb ht1 hdg1 hbv1
              go_wp2_with fail
              go_roundg (gk - 1)
              case measure => omega
              case rel =>
                obtain ⟨hi', hlt2, hr0, ht1, hbv1⟩ := HD.out
                have hwi := congrArg (Value.int IntKind.i64) wi
                clear wi w1 ht0 hdg hbv e0 e1 e2
                refine ⟨upd B3 i' bv, j + 1, i', t0, hwi, rfl, by go_num, by omega, ⟨?_, ?_, ?_, ?_, ?_⟩⟩
                · rw [ht1]
                  have := H4.out.ch
                  rw [hi'] at this
                  exact this.step hVq0 hj (by rw [upd_same]; exact hbv1) (fun m h1 h2 => upd_other _ _ (by omega))
                · exact H4.out.room.setInt _ _ _
                · intro m h1 h2
                  by_cases hm : m = i'
                  · subst hm; rw [upd_same]; exact cs_same Hold.out
                  · rw [upd_other _ _ hm, cs_other (by omega)]; exact H4.out.bw m (by omega) h2
                · have := hr0.1; have := hr0.2; exact ⟨by omega, by omega⟩
                · exact H4.out.k.setCell _ _ _ (fun _ => ⟨rfl, by omega, by omega⟩)
            · have d3 : decide ((i2 : Int) > 0) = false := by simp; omega
              go_wp2_with fail
              go_roundg (q / 10000000000000000000).toNat
              case measure =>
                have hqn : 0 ≤ q := by rw [← HL.out.v]; exact val_nonneg HL.out.wf
                have h1 : q / 10000000000000000000 * 10000000000000000000 ≤ q := Int.ediv_mul_le _ (by decide)
                omega
              case rel =>
                obtain ⟨g1, g2, g3, g4, g5, g6, g8⟩ := HA.out
                have hch := H4.out.ch.done (Or.inr (by omega)) HL.out.ch.hq
                rw [show (10 : Int) ^ 19 = 10000000000000000000 by decide] at hch
                have hq0' := HL.out.v
                have hqn : 0 ≤ q := by rw [← hq0']; exact val_nonneg HL.out.wf
                have hle : q / 10000000000000000000 ≤ q := Int.ediv_le_self _ hqn
                have hk5 : Chg (zAddr qa' qc') wc w5 ∨ True := Or.inr trivial
                have kz : Chg (fun b o => zRow sb so h b o ∨ zAddr qa' qc' b o) wc w5 := HL.out.k.trans g8 (by
                  rintro b o hb hz
                  exact Or.inr hz)
                refine ⟨n2, Y2, B3, t1 + 1, i2, q / 10000000000000000000, rfl, rfl, by omega, ⟨g1, ?_, ?_, g4, g5, g6, ?_, HL.out.ne, H4.out.room, H4.out.bw, hch, kz.trans H4.out.k (fun _ _ _ h => Or.inl h)⟩⟩
                · exact g2.chg H4.out.k (by rintro b o ⟨p', e, _⟩ hz; exact HL.out.ne b p' e hz.1)
                · exact rd_far g3 H4.out.k (by rintro b o i e _ hz; exact HL.out.ne b o e hz.1)
                · have hl := val_lt HL.out.wf
                  rw [HL.out.v] at hl
                  have := norm_le (N := n) g4 g5 (by rw [g6]; omega)
                  have := HL.out.sm
                  omega
          · have d2 : decide ((j : Int) < 19) = false := by simp; omega
            go_wp2_with fail
            go_roundg (q / 10000000000000000000).toNat
            case measure =>
              have hqn : 0 ≤ q := by rw [← HL.out.v]; exact val_nonneg HL.out.wf
              have h1 : q / 10000000000000000000 * 10000000000000000000 ≤ q := Int.ediv_mul_le _ (by decide)
              omega
            case rel =>
              obtain ⟨g1, g2, g3, g4, g5, g6, g8⟩ := HA.out
              have hch := H4.out.ch.done (Or.inl (by have := H4.out.ch.hj; omega)) HL.out.ch.hq
              rw [show (10 : Int) ^ 19 = 10000000000000000000 by decide] at hch
              have hq0' := HL.out.v
              have hqn : 0 ≤ q := by rw [← hq0']; exact val_nonneg HL.out.wf
              have hle : q / 10000000000000000000 ≤ q := Int.ediv_le_self _ hqn
              have hk5 : Chg (zAddr qa' qc') wc w5 ∨ True := Or.inr trivial
              have kz : Chg (fun b o => zRow sb so h b o ∨ zAddr qa' qc' b o) wc w5 := HL.out.k.trans g8 (by
                rintro b o hb hz
                exact Or.inr hz)
              refine ⟨n2, Y2, B3, t1 + 1, i2, q / 10000000000000000000, rfl, rfl, by omega, ⟨g1, ?_, ?_, g4, g5, g6, ?_, HL.out.ne, H4.out.room, H4.out.bw, hch, kz.trans H4.out.k (fun _ _ _ h => Or.inl h)⟩⟩
              · exact g2.chg H4.out.k (by rintro b o ⟨p', e, _⟩ hz; exact HL.out.ne b p' e hz.1)
              · exact rd_far g3 H4.out.k (by rintro b o i e _ hz; exact HL.out.ne b o e hz.1)
              · have hl := val_lt HL.out.wf
                rw [HL.out.v] at hl
                have := norm_le (N := n) g4 g5 (by rw [g6]; omega)
                have := HL.out.sm
                omega
      · have d1 : decide ((n : Int) > 0) = false := by simp; omega
        have hDg : DigW B2 i h Vq := by
          have hch := HL.out.ch
          have e : q = 0 := by
            have := HL.out.v
            obtain rfl : n = 0 := by omega
            rw [← this]; rfl
          rw [e] at hch
          exact hch.done hVq0 HX.out.lt
        have HDg := Lib.hid hDg
        clear hDg
        go_wp2_with fail
        go_loopg [19] i (fun g s19 wr => ∃ B3, s19 = .int .i64 (g : Nat) ∧ Hid (DigW B3 g h Vq ∧ BRoom wr sb so h ∧ (∀ j, g ≤ j → j < h → wr.cell? ⟨sb, so + j, none⟩ = some (.int .u8 (B3 j))) ∧ Chg (zRow sb so h) w3 wr))
        case atStart => exact ⟨B2, rfl, HDg.out, HL.out.room, HL.out.bw, Chg.refl _ _⟩
        case round =>
          obtain ⟨B3, rfl, HP⟩ := hrel
          by_cases hg0 : 0 < gk
          · have d2 : decide ((gk : Int) > 0) = true := by simp; omega
            obtain ⟨i', hi'⟩ : ∃ i', gk = i' + 1 := ⟨gk - 1, by omega⟩
            have e0 : ((gk : Int) - 1) = (i' : Int) := by omega
            have hlt : i' < h := by have := HP.out.1.1; omega
            have e1 : (0 : Int) ≤ (i' : Int) := by omega
            have e2 : (i' : Int) < (h : Int) := by omega
            have wi : wrap64 (i' : Int) = (i' : Int) := by unfold wrap64; have := HX.out.hl; have := HC.out.le; have := HC.out.cap; omega
            obtain ⟨⟨old, hold⟩, hfz⟩ := HP.out.2.1 i' hlt
            have HD := Lib.hid (And.intro hi' (And.intro hlt hold))
            clear hi'
            go_wp2_with fail
            go_roundg i'
            case measure => have := HD.out.1; omega
            case rel =>
              obtain ⟨hi', hlt2, hold⟩ := HD.out
              obtain ⟨p1, p2, p3, p4⟩ := HP.out
              have hwi := congrArg (Value.int IntKind.i64) wi
              clear wi e0 e1 e2
              refine ⟨upd B3 i' 48, hwi, ?_, p2.setInt _ _ _, ?_, p4.setCell _ _ _ (fun _ => ⟨rfl, by omega, by omega⟩)⟩
              · rw [hi'] at p1
                exact (p1.congr (fun m h1 h2 => upd_other B3 (48 : Int) (by omega))).pad (upd_same _ _ _)
              · intro m h1 h2
                by_cases hm : m = i'
                · subst hm; rw [upd_same]; exact cs_same hold
                · rw [upd_other _ _ hm, cs_other (by omega)]; exact p3 m (by omega) h2
          · have d2 : decide ((gk : Int) > 0) = false := by simp; omega
            obtain rfl : gk = 0 := by omega
            go_wp2_with fail
            go_end0
            obtain ⟨p1, p2, p3, p4⟩ := HP.out
            have hx := HX.out
            have kz : Chg (fun b o => zRow sb so h b o ∨ zAddr qa' qc' b o) wc wr := HL.out.k.trans p4 (fun _ _ _ h => Or.inl h)
            have hqz : ∀ b o, zAddr qa' qc' b o → SepB p d' b ∧ b ≠ sb := by
              rintro b o ⟨p', e, _⟩
              exact ⟨(hx.q.off b p' e).2.2, (hx.q.off b p' e).2.1⟩
            have hss : SepB p d' sb := HC.out.ss.from hx.sf HC.out.sz
            have hsep : ∀ b o, (zRow sb so h b o ∨ zAddr qa' qc' b o) → SepB p d' b := by
              rintro b o (hz | hz)
              · rw [hz.1]; exact hss
              · exact (hqz b o hz).1
            refine ⟨d', fun j => if j < h then B3 j else B j, rfl, ?_, hx.sf, hx.sl', ?_, ?_, ?_, ?_, ?_⟩
            · refine hx.s.chg kz (fun hh => (hsep _ _ hh).1 rfl) (fun s e => ⟨fun hh => ((hsep _ _ hh).2 s e).1 rfl, ?_⟩)
              rintro b o ⟨po, e1, _⟩ hh
              exact absurd rfl (((hsep _ _ hh).2 s e).2 b po e1)
            · intro j hj
              obtain ⟨x, hx'⟩ := hx.room j hj
              by_cases hjh : j < h
              · exact p2 j hjh
              · obtain ⟨x, hx'⟩ := x
                refine ⟨⟨x, kz.cell hx' ?_⟩, by rw [kz.frozen hx']; exact (hx.room j hj).2⟩
                rintro (hz | hz)
                · have := hz.2.2; omega
                · exact (hqz _ _ hz).2 rfl
            · intro j hj
              by_cases hjh : j < h
              · simp only [if_pos hjh]; exact p3 j (by omega) hjh
              · simp only [if_neg hjh]
                refine kz.cell (hx.bw j (by omega) hj) ?_
                rintro (hz | hz)
                · have := hz.2.2; omega
                · exact (hqz _ _ hz).2 rfl
            · have hj := (p1.congr (Y := fun j => if j < h then B3 j else B j) (fun m h1 h2 => if_pos h2)).join (hx.dg.congr (Y := fun j => if j < h then B3 j else B j) (fun m h1 h2 => if_neg (by omega)))
              have e := Int.emod_add_mul_ediv V (10 ^ (sl - h))
              rw [← hx.vq, Int.mul_comm] at e
              rwa [show Vq * 10 ^ (sl - h) + V % 10 ^ (sl - h) = V by omega] at hj
            · intro ht0
              obtain ⟨q1, q2⟩ := hqq ht0
              rw [← q1, ← q2]
              exact HL.out.z.chg p4 (by rintro b o ⟨p', e, _⟩ hz; exact HL.out.ne b p' e hz.1)
            · refine hx.k.trans kz ?_
              rintro b o hb (hz | hz)
              · exact Or.inl ⟨hz.1, hz.2.1, by have := hz.2.2; have := hx.hl; omega⟩
              · exact Or.inr (Or.inl (hx.hh.zone b o hb hz))
theorem conv_any (t : Nat) : ConvAll t := by
  induction t using Nat.strongRecOn with
  | _ t ih => exact conv_step t ih
end Go.Proofs.YtmgfajamanakcaaGreatDoor
