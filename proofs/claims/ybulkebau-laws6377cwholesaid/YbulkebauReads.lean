/- The arguments of LawS6377CWhole, out of their readings. -/
import Derived.Test.YbulkebauLawC0
import Derived.ProofKit
import Derived.OpenShut
import Derived.SizedLaws
import Derived.Deep.Slices
import Derived.Deep.Strs
import Derived.ChangeSame
namespace Go.Proofs.Ybulkebau
open Go.ChangeShapes Go.WideShapes Go.ChangeAt Go.RowKit
set_option linter.unusedVariables false

theorem cells57 : Yba.prog.cellsOf 57 = 2 := by kernel_rfl
theorem cells22' : Yba.prog.cellsOf 22 = 1 := by kernel_rfl
theorem cells9' : Yba.prog.cellsOf 9 = 1 := by kernel_rfl
theorem bytes5 : Yba.prog.bytesOf 5 = 1 := by kernel_rfl
theorem bytes9 : Yba.prog.bytesOf 9 = 16 := by kernel_rfl
theorem bytes57 : Yba.prog.bytesOf 57 = 40 := by kernel_rfl
theorem reach47 : reachBytes = 140737488351232 := by decide

theorem cell_lt' {w : World} {a : Addr} {v : Value} (h : w.cell? a = some v) : a.block < w.heap.size := by
  apply Classical.byContradiction
  intro hn
  have : w.heap[a.block]? = none := Array.getElem?_eq_none (by omega)
  simp [World.cell?, this] at h
theorem cell_form {w : World} {x : Addr} {j : Nat} {v v0 : Value} (h0 : w.cell? (x.add 0) = some v0) (h : w.cell? (x.add j) = some v) : ∃ b o, (some x : Option Addr) = some ⟨b, o, none⟩ ∧ b < w.heap.size ∧ w.cell? ⟨b, o + j, none⟩ = some v := by
  obtain ⟨b, off, sp⟩ := x
  have hsp : sp = none := by simpa [Addr.add] using World.cell?_spot h0
  subst hsp
  rw [add_at] at h
  exact ⟨b, off, rfl, cell_lt' h, h⟩
theorem list2 {α : Type} (l : List α) (h : l.length = 2) : ∃ a b, l = [a, b] := by
  match l, h with
  | [a, b], _ => exact ⟨a, b, rfl⟩
theorem weightsAll_mem {H : Type} {P : Program} {e : TypeId} : ∀ {l : List (DataW H)} {d : DataW H}, d ∈ l → ∀ n ∈ d.weights P e, n ∈ DataW.weightsAll P e l
  | d' :: r, d, hd, n, hn => by
    simp only [DataW.weightsAll, List.mem_append]
    rcases List.mem_cons.1 hd with rfl | h
    · exact Or.inl hn
    · exact Or.inr (weightsAll_mem h n hn)

variable {H : Type} {enc : TypeId × Value → H} {W : World}

/-- A slice of bytes. -/
theorem bytes_of {n : Nat} {cs : List Value} {x : DataW H × List MemPlace} (h : DataW.trod enc Yba.prog W 0 (fun _ => true) true n 22 cs = some x) (hr : ∀ m ∈ x.1.weights Yba.prog 22, m ≤ reachBytes) :
    ∃ a len cap l, cs = [.slice a len cap] ∧ len = List.length l ∧ len ≤ 140737488351232 ∧ Sl W a len cap (bts l) := by
  rcases open_ints Yba.underlying22 Yba.underlying5 (by kernel_rfl) h with ⟨rfl, _⟩ | ⟨a, len, cap, zs, rfl, _, hl, hm, hz, rfl, hcell, hwz⟩
  · exact ⟨none, 0, 0, [], rfl, rfl, by omega, rfl, fun _ => ⟨rfl, rfl⟩, by simp, by simp⟩
  · simp only [if_true] at hz
    have h1 := hr _ (by simp only [DataW.weights, Yba.underlying22]; exact List.mem_cons_self ..)
    rw [bytes5, reach47] at h1
    simp only [lits, List.length_map, List.length_take, List.length_drop] at h1
    have hlen : ((zs.take len).map fun z => UInt8.ofNat z.toNat).length = len := by simp; omega
    refine ⟨some a, len, cap, (zs.take len).map (fun z => UInt8.ofNat z.toNat), rfl, hlen.symm, by omega, by simp [bts]; omega, (fun e => by cases e), ?_, fun j u hj => ?_⟩
    · intro u hu
      obtain ⟨z, _, rfl⟩ := List.mem_map.1 hu
      rfl
    · have hj' : j < len := by
        have := (List.getElem?_eq_some_iff.1 hj).1
        simp [bts] at this
        omega
      have hc := hcell j (by omega)
      have hb := bounds_u8 (hwz (zs.getD j 0) (by rw [List.getD_eq_getElem?_getD, List.getElem?_eq_getElem (by omega)]; simp))
      have hu : u = .int .u8 (zs.getD j 0) := by
        simp only [bts, List.map_map, List.getElem?_map, List.getElem?_take, hj', if_true] at hj
        rw [List.getElem?_eq_getElem (by omega)] at hj
        simp at hj
        rw [← hj]
        rw [List.getD_eq_getElem?_getD, List.getElem?_eq_getElem (by omega)] at hb ⊢
        simp at hb ⊢
        omega
      rw [hu]
      exact cell_form (hcell 0 (by omega)) hc

/-- A slice of strings. -/
theorem strs_of {n : Nat} {cs : List Value} {x : DataW H × List MemPlace} (h : DataW.trod enc Yba.prog W 0 (fun _ => true) true n 54 cs = some x) (hr : ∀ m ∈ x.1.weights Yba.prog 54, m ≤ reachBytes) :
    ∃ a len cap ss, cs = [.slice a len cap] ∧ len ≤ 140737488351232 ∧ Sl W a len cap (sts len ss) := by
  rcases Go.Deep.open_strs Yba.underlying54 Yba.underlying9 (by kernel_rfl) h with ⟨rfl, _⟩ | ⟨a, len, cap, m, ss, rfl, _, hl, hm, hmm, rfl, hcell⟩
  · exact ⟨none, 0, 0, fun _ => ⟨#[]⟩, rfl, by omega, rfl, fun _ => ⟨rfl, rfl⟩, by simp, by simp⟩
  · simp only [if_true] at hmm
    have h1 := hr _ (by simp only [DataW.weights, Yba.underlying54]; exact List.mem_cons_self ..)
    rw [bytes9, reach47] at h1
    simp only [List.length_map, List.length_range] at h1
    refine ⟨some a, len, cap, ss, rfl, by omega, by simp [sts], (fun e => by cases e), ?_, fun j u hj => ?_⟩
    · intro u hu
      simp [sts] at hu
      obtain ⟨i, _, rfl⟩ := hu
      rfl
    · have hj' : j < len := by
        have := (List.getElem?_eq_some_iff.1 hj).1
        simp [sts] at this
        omega
      simp [sts, hj'] at hj
      rw [← hj]
      exact cell_form (hcell 0 (by omega)).1 (hcell j (by omega)).1

/-- The slice of contacts. -/
theorem outs_of {n : Nat} {a : Option Addr} {N c : Nat} {x : DataW H × List MemPlace} (h : DataW.trod enc Yba.prog W 0 (fun _ => true) true n 53 [.slice a N c] = some x) (hr : ∀ m ∈ x.1.weights Yba.prog 53, m ≤ reachBytes) :
    N ≤ 140737488351232 ∧ ∃ ka kn kc l sa, Out W a N ka kn kc l sa := by
  rcases Go.Deep.open_slice Yba.underlying53 h with ⟨hcs, _⟩ | ⟨b, len, cap, m, n', D, Pl, hcs, _, hl, hm, hmm, rfl, hx⟩
  · simp at hcs
    obtain ⟨rfl, rfl, rfl⟩ := hcs
    exact ⟨by omega, fun _ => none, fun _ => 0, fun _ => 0, fun _ => [], fun _ => ⟨#[]⟩, fun i hi => by omega⟩
  · simp at hcs
    obtain ⟨rfl, rfl, rfl⟩ := hcs
    simp only [if_true] at hmm
    have h1 := hr _ (by simp only [DataW.weights, Yba.underlying53]; exact List.mem_cons_self ..)
    rw [bytes57, reach47] at h1
    simp only [List.length_map, List.length_range] at h1
    refine ⟨by omega, ?_⟩
    have hz : ∀ i, i < N → ∃ y : Option Addr × Nat × Nat × List UInt8 × ByteArray, W.cell? (b.add (i * 2)) = some (.slice y.1 y.2.1 y.2.2.1) ∧ W.cell? ((b.add (i * 2)).add 1) = some (.string y.2.2.2.2) ∧ y.2.1 = y.2.2.2.1.length ∧ y.2.1 ≤ 140737488351232 ∧ y.2.2.2.2.size ≤ 140737488351232 ∧ Sl W y.1 y.2.1 y.2.2.1 (bts y.2.2.2.1) := by
      intro i hi
      obtain ⟨cs', hc, ht⟩ := hx i (by omega)
      rw [cells57] at hc
      have hw : ∀ m ∈ (D i).weights Yba.prog 57, m ≤ reachBytes := fun m hm => hr m (by
        simp only [DataW.weights, Yba.underlying53, List.mem_cons, List.mem_append]
        exact .inr (.inl (weightsAll_mem (List.mem_map.2 ⟨i, List.mem_range.2 hi, rfl⟩) m hm)))
      obtain ⟨y0, y1, k, hD, hl2, t0, t1⟩ := trod_struct2 Yba.underlying57 ht
      have hD1 : D i = .agg [y0.1, y1.1] := congrArg Prod.fst hD
      rw [hD1] at hw
      have hw0 : ∀ m ∈ y0.1.weights Yba.prog 22, m ≤ reachBytes := fun m hm => hw m (by
        simp only [DataW.weights, Yba.underlying57]
        exact DataW.weights_mem_each (j := 0) rfl rfl m hm)
      have hw1 : ∀ m ∈ y1.1.weights Yba.prog 9, m ≤ reachBytes := fun m hm => hw m (by
        simp only [DataW.weights, Yba.underlying57]
        exact DataW.weights_mem_each (j := 1) rfl rfl m hm)
      obtain ⟨_, hl3, hcell⟩ := World.cells?_some hc
      obtain ⟨c0, c1, rfl⟩ := list2 cs' hl3
      simp only [cells22', cells9', List.drop_zero, List.drop_succ_cons, List.take_succ_cons, List.take_zero] at t0 t1
      obtain ⟨ka, kn, kc, l, e0, hk, hkr, hs⟩ := bytes_of t0 hw0
      obtain ⟨s, e1, e2, _⟩ := DataW.trod_string Yba.underlying9 t1
      simp at e0 e1
      subst e0 e1
      have hsr := hw1 s.data.toList.length (by rw [e2]; simp [DataW.weights])
      rw [reach47] at hsr
      exact ⟨(ka, kn, kc, l, s), by simpa [Addr.add] using hcell 0 (by omega), by simpa using hcell 1 (by omega), hk, hkr, by simpa using hsr, hs⟩
    obtain ⟨f, hf⟩ := Go.Deep.choose_lt hz
    refine ⟨fun i => (f i).1, fun i => (f i).2.1, fun i => (f i).2.2.1, fun i => (f i).2.2.2.1, fun i => (f i).2.2.2.2, fun i hi => ?_⟩
    obtain ⟨y0, y1, h5, h6, h7, h8⟩ := hf i hi
    obtain ⟨b', o, e, hb, hc⟩ := cell_form (by simpa using (hf 0 (by omega)).1) y0
    injection e with e
    subst e
    rw [add_at, add_at] at y1
    exact ⟨b', o, rfl, hb, hc, y1, h5, h6, h7, h8⟩
end Go.Proofs.Ybulkebau
