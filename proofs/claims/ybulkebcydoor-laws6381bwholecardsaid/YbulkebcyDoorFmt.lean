import Derived.Test.YbulkebcyDoorShelf
import Derived.WalkKit
import Derived.WalkSpells
import Derived.WalkLawsBesides
import Derived.Below
import Derived.WalkSmall
import Derived.Lib.ItoaMem
import Derived.Lib.AppendIntMem
import Derived.Lib.ItoaWalk
namespace Go.Proofs.YbulkebcyDoor
open Go.RowKit Go.Sort Go.Lib
set_option linter.unusedVariables false

theorem under58 : Ybad.prog.underlying 58 = some (.array 24 5) := Ybad.underlying58
theorem al58 : Ybad.prog.arrayLen 58 = 24 := by simp [Program.arrayLen, Ybad.underlying58]

theorem below_grow (w : World) (k : Nat) (os : Array Obj) : Below w.heap.size w (grow (w.drewN k) os) :=
  ⟨rfl, rfl, rfl, by show w.heap.size ≤ (w.heap ++ os).size; simp, fun g hg => heap_grow_old w k os g hg⟩

set_option maxRecDepth 100000 in
set_option maxHeartbeats 800000 in
theorem fmt_small (i : Nat) (hi : i < 100) (w : World) :
    Calls Ybad.prog 11 #[.int .u64 i, .int .i64 10] w fun e w' => e = .returned (.string ⟨(decDigits i).toArray⟩) ∧ Below w.heap.size w w' := by
  go_enter Ybad.func11, Ybad.ntmps11
  go_wp2_with (go_at_call 14; refine (Ybad.internal_strconv_small i hi _).mono ?_; rintro e w' ⟨rfl, rfl⟩)
  go_ret
  exact ⟨rfl, Below.refl _ _⟩

set_option maxRecDepth 100000 in
set_option maxHeartbeats 800000 in
theorem fmt_big (u : Nat) (hu : 100 ≤ u) (hu64 : u < 18446744073709551616) (w : World) (htab : TabIs Ybad.prog w Ybad.tabName .u64 pow10Tab) :
    Calls Ybad.prog 11 #[.int .u64 u, .int .i64 10] w fun e w' => e = .returned (.string ⟨(decDigits u).toArray⟩) ∧ Below w.heap.size w w' := by
  have hu1 : 1 ≤ u := by omega
  have hnd20 : nDigits u ≤ 20 := by have := numDigits_eq u hu1 hu64; split at this <;> omega
  have hb3 : nDigits u ≤ 23 := by omega
  have hsl : ∀ W, (Instr.sliceAt 58 (.pointer (some ⟨w.heap.size, 0, none⟩)) none (some (.int .i64 (nDigits u : Int))) none).run Ybad.prog W = .ok (.slice (some ⟨w.heap.size, 0, none⟩) (nDigits u) 24) W := fun W => by
    rw [run_sliceAt_array_h W 58 ⟨w.heap.size, 0, none⟩ (by simp [Program.arrayLen, Program.elem, Ybad.underlying58]) .i64 (nDigits u : Int) (by omega) (by rw [al58]; omega)]
    go_simp
  have hH0 := holds_zero0 w 58 (nDigits u) (by omega)
  have hfmt := Ybad.internal_strconv_formatBase10 w.heap.size 0 24 u (Array.replicate (nDigits u) 0) (w.alloc (.cells zeros24 58)) hH0 (by rw [Array.size_replicate]; exact lt_pow_nDigits u) hu64 (by rw [Array.size_replicate]; omega)
  rw [Array.size_replicate] at hfmt
  have HH0 := Go.Lib.hid hH0
  have HF : Go.RowKit.Hid (Calls Ybad.prog 16 #[.slice (some ⟨w.heap.size, 0, none⟩) (nDigits u) 24, .int .u64 u] (w.alloc (.cells zeros24 58)) fun e w' => e = .returned (.tuple #[]) ∧ ∃ (n v' : Nat) (dk : Array UInt8), w' = (putRow (fun (b : UInt8) => Value.int .u8 (b.toNat : Int)) (w.alloc (.cells zeros24 58)) w.heap.size 0 dk).drewN n ∧ FmtInv (nDigits u) u 0 v' dk) := hfmt
  clear hH0 hfmt
  go_enter Ybad.func11, Ybad.ntmps11
  go_wp2_with (go_at_call 15; refine (Ybad.internal_strconv_numDigits u hu1 hu64 _ (tabIs_alloc htab _)).mono ?_; rintro e w' ⟨rfl, rfl⟩)
  refine HF.out.mono ?_
  rintro e w' ⟨rfl, k, v', dk, rfl, hF⟩
  have hcv : (convert 27 9 (.slice (some ⟨w.heap.size, 0, none⟩) (nDigits u) 24)).run Ybad.prog ((putRow (fun (b : UInt8) => Value.int .u8 (b.toNat : Int)) (w.alloc (.cells zeros24 58)) w.heap.size 0 dk).drewN k) = .ok (.string ⟨(decDigits u).toArray⟩) ((putRow (fun (b : UInt8) => Value.int .u8 (b.toNat : Int)) (w.alloc (.cells zeros24 58)) w.heap.size 0 dk).drewN k) := by
    have h := run_convert_bytes_back (P := Ybad.prog) ((putRow (fun (b : UInt8) => Value.int .u8 (b.toNat : Int)) (w.alloc (.cells zeros24 58)) w.heap.size 0 dk).drewN k) 27 9 5 ⟨w.heap.size, 0, none⟩ 24 (decDigits u) Ybad.underlying27 Ybad.underlying5 Ybad.underlying9 (fun j hj => by
      rw [row_is_numeral hF j hj, Go.Lib.add_plain, World.cell?_drewN]
      exact cell?_putRow (fun (b : UInt8) => Value.int .u8 (b.toNat : Int)) _ w.heap.size 0 _ dk HH0.out (by rw [hF.size, Array.size_replicate]) j (by rw [hF.size]; rw [decDigits_length] at hj; exact hj))
    rw [decDigits_length] at h
    exact h
  obtain ⟨os, eo⟩ := fin_at w (.cells zeros24 58) dk k 0
  rw [eo] at hcv
  have eo' : (putRow (fun (b : UInt8) => Value.int .u8 (b.toNat : Int)) (w.alloc (.cells zeros24 58)) w.heap.size 0 dk).drewN k = grow (w.drewN k) os := eo
  rw [eo']
  clear eo eo' hF HF HH0 htab
  obtain ⟨W, hW⟩ : ∃ W, W = grow (w.drewN k) os := ⟨_, rfl⟩
  rw [← hW] at hcv ⊢
  have HB : Go.RowKit.Hid (Below w.heap.size w W) := by rw [hW]; exact below_grow w k os
  clear hW
  go_wp2
  go_ret
  exact ⟨rfl, HB.out⟩

/-- internal/strconv.FormatUint at base 10: the decimal digits. -/
theorem fmt_any (u : Nat) (hu64 : u < 18446744073709551616) (w : World) (htab : TabIs Ybad.prog w Ybad.tabName .u64 pow10Tab) :
    Calls Ybad.prog 11 #[.int .u64 u, .int .i64 10] w fun e w' => e = .returned (.string ⟨(decDigits u).toArray⟩) ∧ Below w.heap.size w w' := by
  by_cases h : u < 100
  · exact fmt_small u h w
  · exact fmt_big u (by omega) hu64 w htab

theorem fmt_pub (u : Nat) (hu64 : u < 18446744073709551616) (w : World) (htab : TabIs Ybad.prog w Ybad.tabName .u64 pow10Tab) :
    Calls Ybad.prog 9 #[.int .u64 u, .int .i64 10] w fun e w' => e = .returned (.string ⟨(decDigits u).toArray⟩) ∧ Below w.heap.size w w' := by
  go_enter Ybad.func9, Ybad.ntmps9
  go_wp2_with (go_at_call 11; refine (fmt_any u hu64 w htab).mono ?_; rintro e w1 ⟨rfl, hb⟩)
  go_ret
  exact ⟨rfl, hb⟩

theorem number_nil (w : World) :
    Calls Ybad.prog 5 #[.pointer none] w fun e w' => e = .returned (.string ⟨#[117, 110, 107, 110, 111, 119, 110]⟩) ∧ w = w' := by
  go_enter Ybad.func5, Ybad.ntmps5
  go_wp2
  go_ret
  exact ⟨rfl, rfl⟩

theorem number_some (b off u : Nat) (hu64 : u < 18446744073709551616) (w : World) (hc : w.cell? ⟨b, off, none⟩ = some (.int .u64 u)) (htab : TabIs Ybad.prog w Ybad.tabName .u64 pow10Tab) :
    Calls Ybad.prog 5 #[.pointer (some ⟨b, off, none⟩)] w fun e w' => e = .returned (.string ⟨(decDigits u).toArray⟩) ∧ Below w.heap.size w w' := by
  go_enter Ybad.func5, Ybad.ntmps5
  go_wp2_with (go_at_call 9; refine (fmt_pub u hu64 w htab).mono ?_; rintro e w1 ⟨rfl, hb⟩)
  go_ret
  exact ⟨rfl, hb⟩
end Go.Proofs.YbulkebcyDoor
