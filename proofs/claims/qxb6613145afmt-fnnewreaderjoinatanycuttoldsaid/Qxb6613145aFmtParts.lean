/- Seat b6613145aF: Scan, the pieces joined. -/
import Derived.Test.Qxb6613145aFmtP1a
import Derived.Test.Qxb6613145aFmtP1b
import Derived.Test.Qxb6613145aFmtP1c
import Derived.Test.Qxb6613145aFmtP1d
import Derived.Test.Qxb6613145aFmtP1e
import Derived.Test.Qxb6613145aFmtP1f
import Derived.Test.Qxb6613145aFmtP2a
import Derived.Test.Qxb6613145aFmtP2b
import Derived.Test.Qxb6613145aFmtP3a
import Derived.Test.Qxb6613145aFmtP3b
import Derived.Test.Qxb6613145aFmtP3c
import Derived.Test.Qxb6613145aFmtP3d
import Derived.Test.Qxb6613145aFmtP3s
import Derived.Test.Qxb6613145aFmtP3t
import Derived.Test.Qxb6613145aFmtP4a
import Derived.Test.Qxb6613145aFmtP4b
import Derived.Test.Qxb6613145aFmtP4c
import Derived.Test.Qxb6613145aFmtP4r
import Derived.Test.Qxb6613145aFmtP4t
import Derived.Test.Qxb6613145aFmtP5a
import Derived.Test.Qxb6613145aFmtP5b
import Derived.Test.Qxb6613145aFmtP5c
import Derived.Test.Qxb6613145aFmtP5d
import Derived.Test.Qxb6613145aFmtP5e
namespace Go.Proofs.Qxb6613145aFmt
open Go.RowKit
set_option linter.unusedVariables false
set_option maxRecDepth 100000

theorem e0_ : ((Tryf.f26.body.bind lp).getD .skip) = .block 1 (inb ((Tryf.f26.body.bind lp).getD .skip)) := rfl
theorem e1_ : (inb ((Tryf.f26.body.bind lp).getD .skip)) = .seq (fs (inb ((Tryf.f26.body.bind lp).getD .skip))) (sn (inb ((Tryf.f26.body.bind lp).getD .skip))) := rfl
theorem e2_ : (sn (inb ((Tryf.f26.body.bind lp).getD .skip))) = .seq (fs (sn (inb ((Tryf.f26.body.bind lp).getD .skip)))) (sn (sn (inb ((Tryf.f26.body.bind lp).getD .skip)))) := rfl
theorem e3_ : (sn (sn (inb ((Tryf.f26.body.bind lp).getD .skip)))) = .seq (fs (sn (sn (inb ((Tryf.f26.body.bind lp).getD .skip))))) (sn (sn (sn (inb ((Tryf.f26.body.bind lp).getD .skip))))) := rfl
theorem e4_ : (sn (sn (sn (inb ((Tryf.f26.body.bind lp).getD .skip))))) = .seq (fs (sn (sn (sn (inb ((Tryf.f26.body.bind lp).getD .skip)))))) (sn (sn (sn (sn (inb ((Tryf.f26.body.bind lp).getD .skip)))))) := rfl
theorem e5_ : (sn (sn (sn (sn (inb ((Tryf.f26.body.bind lp).getD .skip)))))) = .seq (fs (sn (sn (sn (sn (inb ((Tryf.f26.body.bind lp).getD .skip))))))) (sn (sn (sn (sn (sn (inb ((Tryf.f26.body.bind lp).getD .skip))))))) := rfl
theorem e6_ : (sn (sn (sn (sn (sn (inb ((Tryf.f26.body.bind lp).getD .skip))))))) = .block 2 (.loop ((lp (sn (sn (sn (sn (sn (inb ((Tryf.f26.body.bind lp).getD .skip)))))))).getD .skip)) := rfl
theorem e7_ : ((lp (sn (sn (sn (sn (sn (inb ((Tryf.f26.body.bind lp).getD .skip)))))))).getD .skip) = .block 3 (inb ((lp (sn (sn (sn (sn (sn (inb ((Tryf.f26.body.bind lp).getD .skip)))))))).getD .skip)) := rfl
theorem e8_ : (inb ((lp (sn (sn (sn (sn (sn (inb ((Tryf.f26.body.bind lp).getD .skip)))))))).getD .skip)) = .seq (fs (inb ((lp (sn (sn (sn (sn (sn (inb ((Tryf.f26.body.bind lp).getD .skip)))))))).getD .skip))) (sn (inb ((lp (sn (sn (sn (sn (sn (inb ((Tryf.f26.body.bind lp).getD .skip)))))))).getD .skip))) := rfl
theorem f3_ : (fs (sn (sn (inb ((Tryf.f26.body.bind lp).getD .skip))))) = .seq (fs (fs (sn (sn (inb ((Tryf.f26.body.bind lp).getD .skip)))))) (.cond (.tmp 153) (thn (sn (fs (sn (sn (inb ((Tryf.f26.body.bind lp).getD .skip))))))) .skip) := rfl
theorem f4_ : (fs (sn (sn (sn (inb ((Tryf.f26.body.bind lp).getD .skip)))))) = .seq (fs (fs (sn (sn (sn (inb ((Tryf.f26.body.bind lp).getD .skip))))))) (.cond (.tmp 195) (thn (sn (fs (sn (sn (sn (inb ((Tryf.f26.body.bind lp).getD .skip)))))))) .skip) := rfl
theorem g1_ : (thn (sn (fs (sn (sn (sn (inb ((Tryf.f26.body.bind lp).getD .skip)))))))) = .seq (fs (thn (sn (fs (sn (sn (sn (inb ((Tryf.f26.body.bind lp).getD .skip))))))))) (sn (thn (sn (fs (sn (sn (sn (inb ((Tryf.f26.body.bind lp).getD .skip))))))))) := rfl
theorem g2_ : (fs (thn (sn (fs (sn (sn (sn (inb ((Tryf.f26.body.bind lp).getD .skip))))))))) = .seq (fs (fs (thn (sn (fs (sn (sn (sn (inb ((Tryf.f26.body.bind lp).getD .skip)))))))))) (.cond (.tmp 213) (thn (sn (fs (thn (sn (fs (sn (sn (sn (inb ((Tryf.f26.body.bind lp).getD .skip))))))))))) .skip) := rfl

theorem slot_of {B k : Nat} {c : Nat → Value} {v : Value} (h : (frame B c).tmps[k]? = some v) : (frame B c).eval (.tmp k) = v := by
  show (frame B c).tmps.getD k undef = v
  rw [Array.getD_eq_getD_getElem?, h]
  rfl

theorem part5 {B R K m : Nat} {S : ByteArray} {pos : Nat} {b : Addr} {w : World} {K1 i1 st1 en1 m1 : Nat} {Q : Exit → Act → World → Prop} (c : Nat → Value) (wc : World) (hK : K1 = K ∧ 0 < m ∨ w.heap.size ≤ K1) (hA : Apart (Mine B R K m) w wc) (hS : Sc B R K1 S wc pos i1 st1 en1 m1 .nilIface) (hlt : en1 < m1) (hG : Hid (∀ wx, Apart (Mine B R K m) w wx → wx.cell? ⟨4, 0, none⟩ = some (.iface 54 (.pointer (some b))))) (hN : Hid (∀ (a' : Act) (w' : World), Fr B a' → (∃ K2 i2 st2 en2 m2 err2, (K2 = K ∧ 0 < m ∨ w.heap.size ≤ K2) ∧ ((err2 = .nilIface ∧ i1 < i2) ∨ (err2 = (.iface 54 (.pointer (some b))) ∧ i2 = S.size)) ∧ Apart (Mine B R K m) w w' ∧ Sc B R K2 S w' pos i2 st2 en2 m2 err2) → Q .normal a' w')) :
    (sn (sn (sn (sn (inb ((Tryf.f26.body.bind lp).getD .skip)))))).wp Tryf.prog Q (frame B c) wc := by
  rw [e5_]
  refine wp_seq (p5_start (K := K) (m := m) (b := b) (w := w) c wc hK hA hS (Lib.hid ?_))
  rintro a' w' hF rfl
  obtain ⟨c', rfl⟩ := fr_open hF
  rw [e6_]
  refine wp_block (wp_loop_once ?_)
  rw [e7_]
  refine wp_block ?_
  rw [e8_]
  refine wp_seq ?_
  by_cases hi : i1 = S.size
  · refine p5_end c' w' hK hA hS (hG.out _ hA) hlt hi (Lib.hid ?_)
    intro a2 w2 hF2 h9 h10 hh
    obtain ⟨c2, rfl⟩ := fr_open hF2
    refine wp_mono (p5_endb (L := fun _ _ => False) (Q0 := fun e a w => e = .exit 2 ∧ Q .normal a w) c2 w2 hK hh.1 hh.2 hlt (Option.some.inj h9) (Option.some.inj h10) (Lib.hid ?_)) ?_
    · intro a1 w1 hF1 hA1 hS1
      exact ⟨rfl, hN.out _ _ hF1 ⟨K1, i1, st1, en1, m1, _, hK, Or.inr ⟨rfl, hi⟩, hA1, hS1⟩⟩
    · intro e a1 w1 hq
      cases e with
      | normal => exact hq.elim
      | exit id =>
        obtain ⟨h1, h2⟩ := hq
        cases h1
        exact h2
      | goto l => exact absurd hq.1 (by simp)
      | ret => exact absurd hq.1 (by simp)
      | panic ch => exact absurd hq.1 (by simp)
      | outgrown => exact absurd hq.1 (by simp)
  · have hin := hS.inS
    refine p5_some (b := b) c' w' hK hA hS hlt (by omega) _ rfl _ rfl (Lib.hid ?_)
    intro a2 w2 hF2 h9 h10 hh
    obtain ⟨q, rfl⟩ := hh
    obtain ⟨c2, rfl⟩ := fr_open hF2
    refine wp_mono (p5_someb (b := b) (L := fun _ _ => False) (Q0 := fun e a w => e = .exit 2 ∧ Q .normal a w) c2 w' hK hA hS hlt (by omega) _ rfl (Option.some.inj h9) (Option.some.inj h10) _ q rfl (Lib.hid ?_)) ?_
    · intro a1 w1 hF1 hA1 hS1
      exact ⟨rfl, hN.out _ _ hF1 ⟨K1, _, st1, _, m1, _, hK, Or.inl ⟨rfl, by omega⟩, hA1, hS1⟩⟩
    · intro e a1 w1 hq
      cases e with
      | normal => exact hq.elim
      | exit id =>
        obtain ⟨h1, h2⟩ := hq
        cases h1
        exact h2
      | goto l => exact absurd hq.1 (by simp)
      | ret => exact absurd hq.1 (by simp)
      | panic ch => exact absurd hq.1 (by simp)
      | outgrown => exact absurd hq.1 (by simp)

theorem part4 {B R K m : Nat} {S : ByteArray} {pos : Nat} {b : Addr} {w : World} {K1 i1 st1 en1 m1 : Nat} {Q : Exit → Act → World → Prop} (c : Nat → Value) (wc : World) (hK : K1 = K ∧ 0 < m ∨ w.heap.size ≤ K1) (hA : Apart (Mine B R K m) w wc) (hS : Sc B R K1 S wc pos i1 st1 en1 m1 .nilIface) (hz : en1 = m1 → st1 = 0) (hG : Hid (∀ wx, Apart (Mine B R K m) w wx → wx.cell? ⟨4, 0, none⟩ = some (.iface 54 (.pointer (some b))))) (hN : Hid (∀ (a' : Act) (w' : World), Fr B a' → (∃ K2 i2 st2 en2 m2 err2, (K2 = K ∧ 0 < m ∨ w.heap.size ≤ K2) ∧ ((err2 = .nilIface ∧ i1 < i2) ∨ (err2 = (.iface 54 (.pointer (some b))) ∧ i2 = S.size)) ∧ Apart (Mine B R K m) w w' ∧ Sc B R K2 S w' pos i2 st2 en2 m2 err2) → Q .normal a' w')) :
    (sn (sn (sn (inb ((Tryf.f26.body.bind lp).getD .skip))))).wp Tryf.prog Q (frame B c) wc := by
  rw [e4_]
  refine wp_seq ?_
  have go : ∀ (a' : Act) (w' : World), Fr B a' → (∃ K3 st3 en3 m3, (K3 = K ∧ 0 < m ∨ w.heap.size ≤ K3) ∧ en3 < m3 ∧ Apart (Mine B R K m) w w' ∧ Sc B R K3 S w' pos i1 st3 en3 m3 .nilIface) → (sn (sn (sn (sn (inb ((Tryf.f26.body.bind lp).getD .skip)))))).wp Tryf.prog Q a' w' := by
    rintro a' w' hF ⟨K3, st3, en3, m3, hK3, hlt3, hA3, hS3⟩
    obtain ⟨c', rfl⟩ := fr_open hF
    exact part5 c' w' hK3 hA3 hS3 hlt3 hG hN
  have hord := hS.ord
  have hat := hS.at_
  have hin := hS.inS
  have hsm := hS.small
  by_cases he : en1 = m1
  · have hst := hz he
    rw [f4_]
    refine wp_seq (p4_full (b := b) c wc hK hA hS he (Lib.hid ?_))
    intro a2 w2 hF2 h195 hh
    obtain ⟨c2, rfl⟩ := fr_open hF2
    refine wp_cond (t := true) (slot_of h195) ?_
    rw [if_pos rfl, g1_]
    refine wp_seq ?_
    rw [g2_]
    refine wp_seq (p4_small (b := b) c2 w2 hK hh.1 hh.2 (by omega) (Lib.hid ?_))
    intro a3 w3 hF3 h213 hh3
    obtain ⟨c3, rfl⟩ := fr_open hF3
    refine wp_cond (t := false) (slot_of h213) ?_
    rw [if_neg (by simp)]
    refine wp_skip ?_
    by_cases hm : m1 = 0
    · exact p4_first (b := b) c3 w3 hK hh3.1 hh3.2 hst hm (by omega) (Lib.hid go)
    · exact p4_more (b := b) c3 w3 hK hh3.1 hh3.2 hst (by omega) he (Lib.hid go)
  · exact p4_room (b := b) c wc hK hA hS (by omega) (Lib.hid go)

theorem part3 {B R K m : Nat} {S : ByteArray} {pos : Nat} {b : Addr} {w : World} {K1 i1 st1 en1 m1 : Nat} {Q : Exit → Act → World → Prop} (c : Nat → Value) (wc : World) (hK : K1 = K ∧ 0 < m ∨ w.heap.size ≤ K1) (hA : Apart (Mine B R K m) w wc) (hS : Sc B R K1 S wc pos i1 st1 en1 m1 .nilIface) (hG : Hid (∀ wx, Apart (Mine B R K m) w wx → wx.cell? ⟨4, 0, none⟩ = some (.iface 54 (.pointer (some b))))) (hN : Hid (∀ (a' : Act) (w' : World), Fr B a' → (∃ K2 i2 st2 en2 m2 err2, (K2 = K ∧ 0 < m ∨ w.heap.size ≤ K2) ∧ ((err2 = .nilIface ∧ i1 < i2) ∨ (err2 = (.iface 54 (.pointer (some b))) ∧ i2 = S.size)) ∧ Apart (Mine B R K m) w w' ∧ Sc B R K2 S w' pos i2 st2 en2 m2 err2) → Q .normal a' w')) :
    (sn (sn (inb ((Tryf.f26.body.bind lp).getD .skip)))).wp Tryf.prog Q (frame B c) wc := by
  rw [e3_]
  refine wp_seq ?_
  have go : ∀ (a' : Act) (w' : World), Fr B a' → (∃ st2 en2, (en2 = m1 → st2 = 0) ∧ Apart (Mine B R K m) w w' ∧ Sc B R K1 S w' pos i1 st2 en2 m1 .nilIface) → (sn (sn (sn (inb ((Tryf.f26.body.bind lp).getD .skip))))).wp Tryf.prog Q a' w' := by
    rintro a' w' hF ⟨st2, en2, hz2, hA2, hS2⟩
    obtain ⟨c', rfl⟩ := fr_open hF
    exact part4 c' w' hK hA2 hS2 hz2 hG hN
  have hord := hS.ord
  by_cases hz : st1 = 0
  · exact p3_zero (b := b) c wc hK hA hS hz (Lib.hid go)
  · have sh : ∀ (a2 : Act) (w2 : World), Fr B a2 → a2.tmps[153]? = some (.bool true) → (Apart (Mine B R K m) w w2 ∧ Sc B R K1 S w2 pos i1 st1 en1 m1 .nilIface) → (Code.cond (.tmp 153) (thn (sn (fs (sn (sn (inb ((Tryf.f26.body.bind lp).getD .skip))))))) .skip).wp Tryf.prog (Exit.then ((sn (sn (sn (inb ((Tryf.f26.body.bind lp).getD .skip))))).wp Tryf.prog Q) Q) a2 w2 := by
      intro a2 w2 hF2 h153 hh
      obtain ⟨c2, rfl⟩ := fr_open hF2
      refine wp_cond (t := true) (slot_of h153) ?_
      rw [if_pos rfl]
      by_cases hne : m1 = st1
      · exact p3_shift0 (b := b) c2 w2 hK hh.1 hh.2 (by omega) (by omega) hne (by omega) (Lib.hid go)
      · exact p3_shift (b := b) c2 w2 hK hh.1 hh.2 (by omega) (by omega) hne (Lib.hid go)
    by_cases he : en1 = m1
    · rw [f3_]
      exact wp_seq (p3_full (b := b) c wc hK hA hS (by omega) he (Lib.hid sh))
    · by_cases h2 : m1 / 2 < st1
      · rw [f3_]
        exact wp_seq (p3_half (b := b) c wc hK hA hS (by omega) he h2 (Lib.hid sh))
      · exact p3_none (b := b) c wc hK hA hS (by omega) he (by omega) (Lib.hid go)

theorem part1 {B R K m : Nat} {S : ByteArray} {pos : Nat} {b : Addr} {w : World} {K1 i1 st1 en1 m1 : Nat} {err1 : Value} {Q : Exit → Act → World → Prop} (c : Nat → Value) (wc : World) (hK : K1 = K ∧ 0 < m ∨ w.heap.size ≤ K1) (hA : Apart (Mine B R K m) w wc) (hS : Sc B R K1 S wc pos i1 st1 en1 m1 err1) (herr : err1 = .nilIface ∨ (err1 = (.iface 54 (.pointer (some b))) ∧ i1 = S.size)) (hG : Hid (∀ wx, Apart (Mine B R K m) w wx → wx.cell? ⟨4, 0, none⟩ = some (.iface 54 (.pointer (some b))))) (hR : Hid (∀ (a' : Act) (w' : World) (v : Bool), a'.defers = [] → a'.tmps[2]? = some (.bool v) → Scanned B R K m S pos (.iface 54 (.pointer (some b))) w (.returned (.bool v)) w' → Q .ret a' w'))
    (hN : Hid (∀ (a' : Act) (w' : World), Fr B a' → err1 = .nilIface → (∃ K2 i2 st2 en2 m2 err2, (K2 = K ∧ 0 < m ∨ w.heap.size ≤ K2) ∧ ((err2 = .nilIface ∧ i1 < i2) ∨ (err2 = (.iface 54 (.pointer (some b))) ∧ i2 = S.size)) ∧ Apart (Mine B R K m) w w' ∧ Sc B R K2 S w' pos i2 st2 en2 m2 err2) → Q .normal a' w')) :
    (inb ((Tryf.f26.body.bind lp).getD .skip)).wp Tryf.prog Q (frame B c) wc := by
  rw [e1_]
  refine wp_seq ?_
  have go : ∀ (a' : Act) (w' : World), Fr B a' → ((err1 = .nilIface ∨ (err1 = (.iface 54 (.pointer (some b))) ∧ en1 = st1 ∧ i1 = S.size)) ∧ Apart (Mine B R K m) w w' ∧ Sc B R K1 S w' pos i1 st1 en1 m1 err1) → (sn (inb ((Tryf.f26.body.bind lp).getD .skip))).wp Tryf.prog Q a' w' := by
    rintro a' w' hF ⟨hor, hA2, hS2⟩
    obtain ⟨c', rfl⟩ := fr_open hF
    rw [e2_]
    refine wp_seq ?_
    rcases hor with hn | ⟨hn, h1, h2⟩
    · refine p2_on (b := b) c' w' hK hA2 hS2 hn (Lib.hid ?_)
      rintro a2 w2 hF2 ⟨_, hA3, hS3⟩
      obtain ⟨c2, rfl⟩ := fr_open hF2
      rw [hn] at hS3
      exact part3 c2 w2 hK hA3 hS3 hG (Lib.hid (fun a3 w3 hF3 h3 => hN.out a3 w3 hF3 hn h3))
    · exact p2_none c' w' hK hA2 hS2 hn h2 h1 hR
  have hord := hS.ord
  by_cases hlt : st1 < en1
  · rcases newline (fun j => gB S (pos + j)) (en1 - st1) with hno | ⟨e, he, h10, hno⟩
    · rcases herr with herr | ⟨herr, hi⟩
      · exact p1_fill c wc hK hA hS herr hlt hno hR (Lib.hid go)
      · exact p1_last c wc hK hA hS herr hi hlt hno hR (Lib.hid go)
    · rcases herr with herr | ⟨herr, hi⟩
      · exact p1_hit c wc hK hA hS herr hlt e he h10 hno hR (Lib.hid go)
      · exact p1_hitE c wc hK hA hS herr hi hlt e he h10 hno hR (Lib.hid go)
  · rcases herr with herr | ⟨herr, hi⟩
    · exact p1_empty c wc hK hA hS herr (by omega) hR (Lib.hid go)
    · exact p1_none c wc hK hA hS herr hi (by omega) hR (Lib.hid go)
end Go.Proofs.Qxb6613145aFmt
