import Derived.Test.YbulkebcyDoorFmt
import Derived.OneCell
import Derived.Deep.OwnRows
namespace Go.Proofs.YbulkebcyDoor
open Go.RowKit Go.Lib
set_option linter.unusedVariables false

def RowAt (w : World) (g : Nat) (e : TypeId) (cs : List Value) : Prop := w.heap[g]? = some (.cells cs.toArray e (0, 0))
theorem RowAt.cell {w : World} {g : Nat} {e : TypeId} {cs : List Value} (h : RowAt w g e cs) (i : Nat) : w.cell? ⟨g, i, none⟩ = cs[i]? := by
  rw [cell_of_row w g i cs.toArray e (0, 0) h]
  simp
theorem RowAt.free {w : World} {g : Nat} {e : TypeId} {cs : List Value} (h : RowAt w g e cs) (i : Nat) : w.frozen? ⟨g, i, none⟩ = false :=
  frozen_of_row w g i cs.toArray e h
theorem RowAt.lt {w : World} {g : Nat} {e : TypeId} {cs : List Value} (h : RowAt w g e cs) : g < w.heap.size := by
  unfold RowAt at h
  exact (Array.getElem?_eq_some_iff.1 h).1
theorem RowAt.set {w : World} {g : Nat} {e : TypeId} {cs : List Value} (h : RowAt w g e cs) (i : Nat) (u : Value) : RowAt (w.setCell ⟨g, i, none⟩ u) g e (cs.set i u) := by
  have := heap_setCell_same w g i cs.toArray e u h
  unfold RowAt
  rw [this]
  simp
theorem RowAt.new (w : World) (e : TypeId) (cs : Array Value) : RowAt (w.alloc (.cells cs e)) w.heap.size e cs.toList := by
  unfold RowAt
  rw [heap_alloc_new]

/-! ### the numeral, from the right -/
theorem dec_small {v : Nat} (h : v < 10) : decDigits v = [UInt8.ofNat (48 + v)] := decDigits_one h
theorem dec_big {v : Nat} (h : ¬ v < 10) : decDigits v = decDigits (v / 10) ++ [UInt8.ofNat (48 + v % 10)] := by rw [decDigits, dif_neg h]
/-- What is left to write, and what is written. -/
def rest (v : Nat) (ds : List UInt8) : List UInt8 := if v = 0 then ds else decDigits v ++ ds
theorem rest_step {v : Nat} (h : 0 < v) (ds : List UInt8) : rest v ds = rest (v / 10) (UInt8.ofNat (48 + v % 10) :: ds) := by
  unfold rest
  rw [if_neg (by omega)]
  by_cases h1 : v < 10
  · rw [if_pos (by omega), dec_small h1, show v % 10 = v by omega]; rfl
  · rw [if_neg (by omega), dec_big h1]; simp

theorem digit_nat (v : Nat) : (UInt8.ofNat (48 + v % 10)).toNat = 48 + v % 10 := by
  simp only [UInt8.toNat_ofNat']
  omega

theorem zz_zero (w : World) : Calls Ybad.prog 6 #[.int .u64 0] w fun e w' => e = .returned (.string ⟨#[48]⟩) ∧ w = w' := by
  go_enter Ybad.func6, Ybad.ntmps6
  go_wp2
  go_ret
  exact ⟨rfl, rfl⟩

/-- What stands at the head of each round: v is left; the digits ds are written from place k on. -/
def Put (w : World) (V : Nat) (v k : Nat) (wr : World) : Prop :=
  ∃ (cs : List Value) (ds : List UInt8), RowAt wr w.heap.size 47 cs ∧ cs.length = 20 ∧ k + ds.length = 20 ∧ (∀ j (hj : j < ds.length), cs[k + j]? = some (.int .u8 (ds[j].toNat : Int))) ∧ rest v ds = decDigits V ∧ v < 10 ^ k ∧ Below w.heap.size w wr

theorem Put.step {w wr : World} {V v k : Nat} {cs : List Value} {ds : List UInt8} (hv : 0 < v) (hk : 0 < k)
    (h : RowAt wr w.heap.size 47 cs ∧ cs.length = 20 ∧ k + ds.length = 20 ∧ (∀ j (hj : j < ds.length), cs[k + j]? = some (.int .u8 (ds[j].toNat : Int))) ∧ rest v ds = decDigits V ∧ v < 10 ^ k ∧ Below w.heap.size w wr) :
    Put w V (v / 10) (k - 1) (wr.setCell ⟨w.heap.size, k - 1, none⟩ (.int .u8 ((48 + v % 10 : Nat) : Int))) := by
  obtain ⟨hr, hc, hl, hg, he, hb, hw⟩ := h
  refine ⟨_, UInt8.ofNat (48 + v % 10) :: ds, hr.set (k - 1) _, by simpa using hc, by simp; omega, ?_, by rw [← rest_step hv]; exact he, ?_, hw.setCell (Nat.le_refl _) _⟩
  · intro j hj
    cases j with
    | zero => rw [Nat.add_zero, List.getElem?_set_self (by omega)]; simp only [List.getElem_cons_zero]; rw [digit_nat]
    | succ j =>
      rw [List.getElem?_set_ne (by omega), show k - 1 + (j + 1) = k + j by omega]
      have hj' : j < ds.length := by simpa using hj
      exact hg j hj'
  · obtain ⟨m, rfl⟩ : ∃ m, k = m + 1 := ⟨k - 1, by omega⟩
    rw [Nat.pow_succ] at hb
    show v / 10 < 10 ^ m
    omega

set_option maxRecDepth 100000 in
set_option maxHeartbeats 800000 in
theorem zz_pos (V : Nat) (h0 : 0 < V) (h1 : V < 18446744073709551616) (w : World) :
    Calls Ybad.prog 6 #[.int .u64 V] w fun e w' => e = .returned (.string ⟨(decDigits V).toArray⟩) ∧ Below w.heap.size w w' := by
  have hne : ((V : Int) == 0) = false := beq_eq_false_iff_ne.2 (by omega)
  go_enter Ybad.func6, Ybad.ntmps6
  go_wp2
  go_loopw [0, 4] (fun a i wr => ∃ v k : Nat, v < 18446744073709551616 ∧ k ≤ 20 ∧ a = .int .u64 v ∧ i = .int .i64 k ∧ Put w V v k wr) (fun a _ _ => (Go.RowKit.intOf a).toNat)
  case atStart =>
    refine ⟨V, 20, h1, by omega, rfl, rfl, _, [], RowAt.new w 47 _, rfl, rfl, fun j hj => absurd hj (by simp), ?_, by omega, (Below.refl _ _).alloc (Nat.le_refl _) _⟩
    unfold rest
    rw [if_neg (by omega)]; simp
  case round =>
    obtain ⟨v, k, hv, hk, rfl, rfl, cs, ds, hput⟩ := hrel
    by_cases hpos : 0 < v
    · have hk0 : 0 < k := by
        rcases Nat.eq_zero_or_pos k with h | h
        · have := hput.2.2.2.2.2.1; rw [h] at this; simp at this; omega
        · exact h
      obtain ⟨u, hu⟩ : ∃ u, cs[k - 1]? = some u := ⟨_, List.getElem?_eq_getElem (by have := hput.2.1; omega)⟩
      have g2 : wr.cell? ⟨w.heap.size, k - 1, none⟩ = some u := (hput.1.cell (k - 1)).trans hu
      have g3 : wr.frozen? ⟨w.heap.size, k - 1, none⟩ = false := hput.1.free (k - 1)
      have HP : Go.RowKit.Hid (Put w V (v / 10) (k - 1) (wr.setCell ⟨w.heap.size, k - 1, none⟩ (.int .u8 ((48 + v % 10 : Nat) : Int)))) := Put.step hpos hk0 hput
      have hm2 : ((k : Int) - 1).toNat = k - 1 := by omega
      have hm0 : (0 : Int) ≤ (k : Int) - 1 := by omega
      have hm1 : (k : Int) - 1 < 20 := by omega
      clear hput hu
      go_wp2
      go_roundw
      case rel => exact ⟨v / 10, k - 1, by omega, by omega, by go_num, by go_num, by rw [show (48 + (v : Int) % 10) = ((48 + v % 10 : Nat) : Int) by omega]; exact HP.out⟩
      case measure => simp [Go.RowKit.intOf]; omega
    · obtain rfl : v = 0 := by omega
      obtain ⟨hr, hc, hl, hg, he, _, hw⟩ := hput
      have he' : ds = decDigits V := he
      have hlen : 0 < ds.length := by rw [he', decDigits_length]; exact nDigits_pos V
      have hsl : ∀ W, (Instr.sliceAt 47 (.pointer (some ⟨w.heap.size, 0, none⟩)) (some (.int .i64 (k : Int))) none none).run Ybad.prog W = .ok (.slice (some ⟨w.heap.size, k, none⟩) ds.length ds.length) W := fun W => by
        rw [run_sliceAt_array_l W 47 ⟨w.heap.size, 0, none⟩ (by simp [Program.arrayLen, Program.elem, Ybad.underlying47]) .i64 (k : Int) (by omega) (by simp [Program.arrayLen, Ybad.underlying47]; omega)]
        have e1 : Ybad.prog.arrayLen 47 = 20 := by simp [Program.arrayLen, Ybad.underlying47]
        have e2 : Ybad.prog.elem 47 = 5 := by simp [Program.elem, Ybad.underlying47]
        rw [e1, e2, Ybad.sizeOf5, Result.andThen_ok]
        have e3 : ¬ 20 = k := by omega
        have e4 : 20 - k = ds.length := by omega
        simp only [slicedAt, Int.toNat_natCast, if_neg e3, e4, Nat.mul_one, Go.Lib.add_plain, Nat.zero_add]
      have hcv : (convert 27 9 (.slice (some ⟨w.heap.size, k, none⟩) ds.length ds.length)).run Ybad.prog wr = .ok (.string ⟨ds.toArray⟩) wr :=
        run_convert_bytes_back (P := Ybad.prog) wr 27 9 5 ⟨w.heap.size, k, none⟩ ds.length ds Ybad.underlying27 Ybad.underlying5 Ybad.underlying9 (fun j hj => by rw [Go.Lib.add_plain, hr.cell]; exact hg j hj)
      have HB : Go.RowKit.Hid (Below w.heap.size w wr) := hw
      have HE : Go.RowKit.Hid (ds = decDigits V) := he'
      clear hr hc hl hg he he' hw
      go_wp2
      go_ret
      exact ⟨by rw [← HE.out]; rfl, HB.out⟩
end Go.Proofs.YbulkebcyDoor
