/- Seat b6612846aF: checkPolHeader. -/
import Derived.Test.Qxb6612846aFmtName
import Derived.Laws.BytesArg
import Derived.Stop.CallBack
import Derived.Stop.IfaceNil
import GoSem.ClaimData
namespace Go.Proofs.Qxb6612846aFmt
open Go.RowKit Go.Extern.Stop Go.Stop Go.Extern
set_option linter.unusedVariables false

/-- The signature's bytes. -/
def sigB : Nat → Int := fun j => if j = 0 then 80 else if j = 1 then 82 else if j = 2 then 101 else 103


theorem sig_eq (h : Nat → Int) (m : Nat) (hm : m ≤ 4) (hb : ∀ j, 0 ≤ h j ∧ h j < 256) :
    ((strOfNums (row h m)).toList == ((⟨#[80, 82, 101, 103]⟩ : ByteArray).extract 0 m).toList) = true ↔ ∀ j, j < m → h j = sigB j := by
  have key : ∀ j (c : UInt8), UInt8.ofNat (h j).toNat = c ↔ h j = c.toNat := by
    intro j c
    have h0 := (hb j).1
    have h1 := (hb j).2
    constructor
    · intro e
      have := congrArg UInt8.toNat e
      simp at this
      omega
    · intro e
      rw [e]
      simp
  have e4 : (⟨#[80, 82, 101, 103]⟩ : ByteArray).data.toList = [80, 82, 101, 103] := rfl
  rw [beq_iff_eq, Lib.strOfNums_toList, Lib.toList_data, Lib.extract_data]
  rw [e4]
  have e0 : row h m = (List.range m).map h := rfl
  rw [e0]
  have hs : m = 0 ∨ m = 1 ∨ m = 2 ∨ m = 3 ∨ m = 4 := by omega
  constructor
  · intro e j hj
    have e' := congrArg (fun l => l[j]?) e
    rcases hs with rfl | rfl | rfl | rfl | rfl <;> (
      first
      | omega
      | (rcases (show j = 0 ∨ j = 1 ∨ j = 2 ∨ j = 3 by omega) with rfl | rfl | rfl | rfl <;> first | omega | (simp [Lib.bytesOf, List.range_succ] at e'; rw [key] at e'; exact e')))
  · intro hall
    rcases hs with rfl | rfl | rfl | rfl | rfl
    · rfl
    · simp [Lib.bytesOf, List.range_succ, hall 0 (by omega), sigB]
    · simp [Lib.bytesOf, List.range_succ, hall 0 (by omega), hall 1 (by omega), sigB]
    · simp [Lib.bytesOf, List.range_succ, hall 0 (by omega), hall 1 (by omega), hall 2 (by omega), sigB]
    · simp [Lib.bytesOf, List.range_succ, hall 0 (by omega), hall 1 (by omega), hall 2 (by omega), hall 3 (by omega), sigB]

/-- The walk's own form of the signature's test. -/
theorem sig_yes {h : Nat → Int} {m : Nat} {S : ByteArray} (hS : strOfNums (row h m) = S) (hm : m ≤ 4) (hb : ∀ j, 0 ≤ h j ∧ h j < 256) (hs : ∀ j, j < m → h j = sigB j) :
    (S.toList == ((⟨#[80, 82, 101, 103]⟩ : ByteArray).extract 0 m).toList) = true := by rw [← hS]; exact (sig_eq h m hm hb).2 hs
theorem sig_no {h : Nat → Int} {m : Nat} {S : ByteArray} (hS : strOfNums (row h m) = S) (hm : m ≤ 4) (hb : ∀ j, 0 ≤ h j ∧ h j < 256) (hs : ¬ ∀ j, j < m → h j = sigB j) :
    (S.toList == ((⟨#[80, 82, 101, 103]⟩ : ByteArray).extract 0 m).toList) = false := by
  rw [← hS, Bool.eq_false_iff]
  exact fun e => hs ((sig_eq h m hm hb).1 e)

theorem cell_new (w : World) (A : Array Value) (t : TypeId) (j : Nat) : (w.alloc (.cells A t)).cell? ⟨w.heap.size, j, none⟩ = A[j]? := by
  unfold World.cell?
  rw [heap_alloc_new]
  rfl

theorem cell_new2 (w : World) (o : Obj) (A : Array Value) (t : TypeId) (j : Nat) : ((w.alloc o).alloc (.cells A t)).cell? ⟨w.heap.size + 1, j, none⟩ = A[j]? := by
  have := cell_new (w.alloc o) A t j
  rw [World.size_alloc] at this
  exact this

/-- An error of the scanner's: a new DecodeError with its offset. -/
def IsErr (o : Int) (w : World) (e : Ending) (w' : World) : Prop :=
  ∃ N, e = .returned (.iface 48 (.pointer (some ⟨N, 0, none⟩))) ∧ w'.cell? ⟨N, 0, none⟩ = some (.int .i64 o)

set_option maxHeartbeats 2000000 in
theorem head_bad (b k m : Nat) (h : Nat → Int) (more : Bool) (w : World) (hk : k ≤ 8) (hm : m = min k 4) (hb : ∀ j, 0 ≤ h j ∧ h j < 256) (hc : ∀ j, j < k → w.cell? ⟨b, 4 + j, none⟩ = some (.int .u8 (h j)))
    (hs : ¬ ∀ j, j < m → h j = sigB j) :
    Calls Tryf.prog 16 #[.slice (some ⟨b, 4, none⟩) k 8, .bool more] w fun e w' => IsErr 0 w e w' ∧ Below w.heap.size w w' := by
  have i1 : (0 : Int) ≤ (m : Int) := by omega
  have i2 : (m : Int) ≤ 4 := by omega
  have i3 : (m : Int) ≤ 8 := by omega
  have hmin : min (k : Int) 4 = (m : Int) := by omega
  have hcv := run_convert_bytes_arg (P := Tryf.prog) w.drew 22 5 Tryf.underlying22 Tryf.underlying5 b 4 m 8 (row h m) (row_length _ _) (fun i hi => by rw [row_getD _ _ _ hi]; exact hc i (by omega)) 9 Tryf.underlying9
  generalize hS : strOfNums (row h m) = S at hcv
  have hmk : m ≤ k := by omega
  have ht := sig_no hS (by omega) hb hs
  clear hS hm hs hc
  go_enter Tryf.func16, Tryf.ntmps16
  go_wp2
  go_region
  go_wp2
  go_ret
  exact ⟨⟨w.heap.size, rfl, cell_new w _ _ 0⟩, ((Below.refl _ w).alloc (Nat.le_refl _) _).drew⟩

set_option maxHeartbeats 2000000 in
theorem head_more (b k m : Nat) (h : Nat → Int) (w : World) (hk : k < 8) (hm : m = min k 4) (hb : ∀ j, 0 ≤ h j ∧ h j < 256) (hc : ∀ j, j < k → w.cell? ⟨b, 4 + j, none⟩ = some (.int .u8 (h j)))
    (hs : ∀ j, j < m → h j = sigB j) :
    Calls Tryf.prog 16 #[.slice (some ⟨b, 4, none⟩) k 8, .bool true] w fun e w' => e = .returned .nilIface ∧ Below w.heap.size w w' := by
  have i1 : (0 : Int) ≤ (m : Int) := by omega
  have i2 : (m : Int) ≤ 4 := by omega
  have i3 : (m : Int) ≤ 8 := by omega
  have hmin : min (k : Int) 4 = (m : Int) := by omega
  have hcv := run_convert_bytes_arg (P := Tryf.prog) w.drew 22 5 Tryf.underlying22 Tryf.underlying5 b 4 m 8 (row h m) (row_length _ _) (fun i hi => by rw [row_getD _ _ _ hi]; exact hc i (by omega)) 9 Tryf.underlying9
  generalize hS : strOfNums (row h m) = S at hcv
  have hmk : m ≤ k := by omega
  have ht := sig_yes hS (by omega) hb hs
  clear hS hm hs hc
  by_cases h4 : m < 4
  all_goals
    go_enter Tryf.func16, Tryf.ntmps16
    go_wp2
    go_region
    go_wp2
    go_ret
    exact ⟨rfl, (Below.refl _ w).drew⟩

set_option maxHeartbeats 2000000 in
theorem head_last (b k m : Nat) (h : Nat → Int) (w : World) (hk : k < 8) (hm : m = min k 4) (hb : ∀ j, 0 ≤ h j ∧ h j < 256) (hc : ∀ j, j < k → w.cell? ⟨b, 4 + j, none⟩ = some (.int .u8 (h j))) :
    Calls Tryf.prog 16 #[.slice (some ⟨b, 4, none⟩) k 8, .bool false] w fun e w' => (∃ N, e = .returned (.iface 48 (.pointer (some ⟨N, 0, none⟩)))) ∧ Below w.heap.size w w' := by
  by_cases hs : ∀ j, j < m → h j = sigB j
  · have i1 : (0 : Int) ≤ (m : Int) := by omega
    have i2 : (m : Int) ≤ 4 := by omega
    have i3 : (m : Int) ≤ 8 := by omega
    have hmin : min (k : Int) 4 = (m : Int) := by omega
    have hcv := run_convert_bytes_arg (P := Tryf.prog) w.drew 22 5 Tryf.underlying22 Tryf.underlying5 b 4 m 8 (row h m) (row_length _ _) (fun i hi => by rw [row_getD _ _ _ hi]; exact hc i (by omega)) 9 Tryf.underlying9
    generalize hS : strOfNums (row h m) = S at hcv
    have hmk : m ≤ k := by omega
    have ht := sig_yes hS (by omega) hb hs
    clear hS hm hs hc
    by_cases h4 : m < 4
    all_goals
      go_enter Tryf.func16, Tryf.ntmps16
      go_wp2
      go_region
      go_wp2
      go_ret
      exact ⟨⟨_, rfl⟩, ((Below.refl _ w).alloc (Nat.le_refl _) _).drew⟩
  · refine (head_bad b k m h false w (by omega) hm hb hc hs).mono ?_
    rintro e w' ⟨⟨N, he, _⟩, hB⟩
    exact ⟨⟨N, he⟩, hB⟩

theorem call22 (args : Array Value) (w : World) : (callFunc 22 args).run Tryf.prog w = ((FmtStop.sprintf #[9, 95] #[9] args).run Tryf.prog w).andThen fun v w' => .ok (.value v) w' :=
  run_callFunc_extern Tryf.func22 (by kernel_rfl) (by kernel_rfl) (by kernel_rfl) (by kernel_rfl) args w
theorem guard_c (name : String) (w : World) : (FmtStop.guard name).run Tryf.prog w = .ok () w := by kernel_rfl
theorem fmtA (w : World) : (FmtDoors.printed ⟨#[117, 110, 115, 117, 112, 112, 111, 114, 116, 101, 100, 32, 118, 101, 114, 115, 105, 111, 110, 32, 37, 100]⟩ 1).run Tryf.prog w = .ok [(0, 100, false)] w := by kernel_rfl
theorem fmtA' : FmtStop.printed? ⟨#[117, 110, 115, 117, 112, 112, 111, 114, 116, 101, 100, 32, 118, 101, 114, 115, 105, 111, 110, 32, 37, 100]⟩ 1 = some [(0, 100, false)] := by kernel_rfl
theorem fmtB (w : World) : (FmtDoors.printed ⟨#[115, 105, 122, 101, 32, 37, 100, 32, 114, 117, 110, 115, 32, 112, 97, 115, 116, 32, 116, 104, 101, 32, 101, 110, 100, 32, 111, 102, 32, 116, 104, 101, 32, 102, 105, 108, 101, 32, 105, 110, 32, 116, 104, 101, 32, 105, 110, 115, 116, 114, 117, 99, 116, 105, 111, 110]⟩ 1).run Tryf.prog w = .ok [(0, 100, false)] w := by kernel_rfl
theorem fmtB' : FmtStop.printed? ⟨#[115, 105, 122, 101, 32, 37, 100, 32, 114, 117, 110, 115, 32, 112, 97, 115, 116, 32, 116, 104, 101, 32, 101, 110, 100, 32, 111, 102, 32, 116, 104, 101, 32, 102, 105, 108, 101, 32, 105, 110, 32, 116, 104, 101, 32, 105, 110, 115, 116, 114, 117, 99, 116, 105, 111, 110]⟩ 1 = some [(0, 100, false)] := by kernel_rfl
def shape40 : List UInt8 := [8, 6, 0, 0, 0, 0, 0, 0, 0, 117, 105, 110, 116, 51, 50]
theorem op40 (name : String) (x : Int) (w : World) : (FmtStop.operand name false 100 false (.iface 40 (.int .u32 x))).run Tryf.prog w = .ok (shape40, Go.Extern.Stop.digits 8 (x % 2 ^ 64).toNat) w := by kernel_rfl

theorem byte_of (z : Int) (h : 0 ≤ z ∧ z < 256) : ∃ u : UInt8, z = (u.toNat : Int) := ⟨UInt8.ofNat z.toNat, by simp; omega⟩

set_option maxRecDepth 100000 in
theorem le_four (b0 b1 b2 b3 : UInt8) : ((Lib.leNat [b0, b1, b2, b3] : Nat) : Int) = (b0.toNat : Int) + (b1.toNat : Int) * 256 + (b2.toNat : Int) * 65536 + (b3.toNat : Int) * 16777216 := by
  simp only [Lib.leNat]
  push_cast
  omega

/-- Uint32 of four bytes of the walk's own make. -/
theorem le32_g (b o n c : Nat) (h : Nat → Int) (w : World) (hn : 4 ≤ n) (hb : ∀ j, 0 ≤ h j ∧ h j < 256) (hc : ∀ j, j < 4 → w.cell? ⟨b, o + j, none⟩ = some (.int .u8 (h (o + j)))) :
    Calls Tryf.prog 19 #[.agg #[], .slice (some ⟨b, o, none⟩) n c] w fun e w' => e = .returned (.int .u32 (le4 h o : Int)) ∧ Below w.heap.size w w' := by
  obtain ⟨u0, e0⟩ := byte_of (h o) (hb o)
  obtain ⟨u1, e1⟩ := byte_of (h (o + 1)) (hb _)
  obtain ⟨u2, e2⟩ := byte_of (h (o + 2)) (hb _)
  obtain ⟨u3, e3⟩ := byte_of (h (o + 3)) (hb _)
  have := le32_c b o n c u0 u1 u2 u3 w hn (by rw [← e0]; exact hc 0 (by omega)) (by rw [← e1]; exact hc 1 (by omega)) (by rw [← e2]; exact hc 2 (by omega)) (by rw [← e3]; exact hc 3 (by omega))
  have e : ((Lib.leNat [u0, u1, u2, u3] : Nat) : Int) = ((le4 h o : Nat) : Int) := by
    rw [le_four]
    unfold le4
    rw [e0, e1, e2, e3]
    omega
  rw [e] at this
  exact this

theorem le4_one (h : Nat → Int) (o : Nat) (hb : ∀ j, 0 ≤ h j ∧ h j < 256) : ((le4 h o : Nat) : Int) = 1 ↔ h o = 1 ∧ h (o + 1) = 0 ∧ h (o + 2) = 0 ∧ h (o + 3) = 0 := by
  have := hb o; have := hb (o + 1); have := hb (o + 2); have := hb (o + 3)
  unfold le4
  omega

set_option maxHeartbeats 4000000 in
/-- The header whole, its version another. -/
theorem head_ver (F : Interp) (b : Nat) (h : Nat → Int) (more : Bool) (w : World) (hF : F.answers w.tape) (hb : ∀ j, 0 ≤ h j ∧ h j < 256) (hbw : b < w.heap.size) (hc : ∀ j, j < 8 → w.cell? ⟨b, 4 + j, none⟩ = some (.int .u8 (h j)))
    (hs : ∀ j, j < 4 → h j = sigB j) (hv : ¬ (h 4 = 1 ∧ h 5 = 0 ∧ h 6 = 0 ∧ h 7 = 0)) :
    Calls Tryf.prog 16 #[.slice (some ⟨b, 4, none⟩) 8 8, .bool more] w fun e w' => IsErr 4 w e w' ∧ Below w.heap.size w w' := by
  have hcv := run_convert_bytes_arg (P := Tryf.prog) w.drew 22 5 Tryf.underlying22 Tryf.underlying5 b 4 4 8 (row h 4) (row_length _ _) (fun i hi => by rw [row_getD _ _ _ hi]; exact hc i (by omega)) 9 Tryf.underlying9
  generalize hS : strOfNums (row h 4) = S at hcv
  have ht := sig_yes hS (by omega) hb hs
  have hV : (((le4 h 4 : Nat) : Int) != 1) = true := by rw [bne_iff_ne]; exact fun e => hv ((le4_one h 4 hb).1 e)
  clear hS hs hv
  have hle : ∀ n, Calls Tryf.prog 19 #[.agg #[], .slice (some ⟨b, 8, none⟩) 4 4] (w.drewN n) fun e w' => e = .returned (.int .u32 (le4 h 4 : Int)) ∧ Below w.heap.size w w' := fun n =>
    (le32_g b 8 4 4 (fun j => h (j - 4)) (w.drewN n) (by omega) (fun j => hb _) (fun j hj => by have := hc (4 + j) (by omega); rw [show 8 + j = 4 + (4 + j) by omega, show 4 + (4 + j) - 4 = 4 + j by omega]; exact this)).mono (fun e w' ⟨h1, h2⟩ => ⟨h1, (below_drewN (Below.refl _ w) n).trans h2⟩)
  have hmin : min (8 : Int) 4 = 4 := by decide
  have HLE := Lib.hid hle
  clear hle hc
  go_enter Tryf.func16, Tryf.ntmps16
  go_wp2
  go_region
  go_wp2
  go_region_with (go_at_call 19; refine (HLE.out 2).mono ?_; rintro e w2 ⟨rfl, hb2⟩)
  have hF' : F.answers w2.tape := by rw [hb2.tape]; exact hF
  unfold Interp.answers at hF'
  have f1 := call22; have f2 := guard_c; have f3 := fmtA; have f4 := fmtA'; have f5 := op40
  generalize le4 h 4 = v at hV
  go_wp2
  go_ret
  have hbA : ∀ o, Below w.heap.size w (w2.alloc o) := fun o => hb2.alloc hb2.size o
  refine ⟨⟨w2.heap.size + 1, by simp, ?_⟩, ?_⟩
  · exact cell_new2 _ _ _ _ 0
  · exact (((hbA _).alloc (hbA _).size _).drew)

set_option maxHeartbeats 4000000 in
/-- The header whole and right. -/
theorem head_ok (b : Nat) (h : Nat → Int) (w : World) (hb : ∀ j, 0 ≤ h j ∧ h j < 256) (hbw : b < w.heap.size) (hc : ∀ j, j < 8 → w.cell? ⟨b, 4 + j, none⟩ = some (.int .u8 (h j)))
    (hs : ∀ j, j < 4 → h j = sigB j) (hv : h 4 = 1 ∧ h 5 = 0 ∧ h 6 = 0 ∧ h 7 = 0) :
    Calls Tryf.prog 16 #[.slice (some ⟨b, 4, none⟩) 8 8, .bool true] w fun e w' => e = .returned .nilIface ∧ Below w.heap.size w w' := by
  have hcv := run_convert_bytes_arg (P := Tryf.prog) w.drew 22 5 Tryf.underlying22 Tryf.underlying5 b 4 4 8 (row h 4) (row_length _ _) (fun i hi => by rw [row_getD _ _ _ hi]; exact hc i (by omega)) 9 Tryf.underlying9
  generalize hS : strOfNums (row h 4) = S at hcv
  have ht := sig_yes hS (by omega) hb hs
  have hV : (((le4 h 4 : Nat) : Int) != 1) = false := by rw [Bool.eq_false_iff, Ne, bne_iff_ne]; exact fun e => e ((le4_one h 4 hb).2 hv)
  clear hS hs hv
  have hle : ∀ n, Calls Tryf.prog 19 #[.agg #[], .slice (some ⟨b, 8, none⟩) 4 4] (w.drewN n) fun e w' => e = .returned (.int .u32 (le4 h 4 : Int)) ∧ Below w.heap.size w w' := fun n =>
    (le32_g b 8 4 4 (fun j => h (j - 4)) (w.drewN n) (by omega) (fun j => hb _) (fun j hj => by have := hc (4 + j) (by omega); rw [show 8 + j = 4 + (4 + j) by omega, show 4 + (4 + j) - 4 = 4 + j by omega]; exact this)).mono (fun e w' ⟨h1, h2⟩ => ⟨h1, (below_drewN (Below.refl _ w) n).trans h2⟩)
  have hmin : min (8 : Int) 4 = 4 := by decide
  have HLE := Lib.hid hle
  clear hle hc
  go_enter Tryf.func16, Tryf.ntmps16
  go_wp2
  go_region
  go_wp2
  go_region_with (go_at_call 19; refine (HLE.out 2).mono ?_; rintro e w2 ⟨rfl, hb2⟩)
  generalize le4 h 4 = v at hV
  go_wp2
  go_ret
  exact ⟨rfl, hb2⟩
end Go.Proofs.Qxb6612846aFmt
