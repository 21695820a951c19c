/- The proof of Rows.LawS6381BWholeSaid and of its tied card; after the kit's worked pair (MapyProofs, ToyasCard). -/
import Derived.Test.YbulkebcyDoorRows
import Derived.Test.YbulkebcyDoorTie
import Derived.Test.YbulkebcyDoorCards
import Derived.Test.YbulkebcyDoorLaw
import Derived.ProofKit
import Derived.LaidMore
import Derived.OpenShut
import Derived.Stop.Joined
import Derived.SevenTiedAt
import Derived.ChangeOld
namespace Go.Proofs.YbulkebcyDoor.lawS6381BWhole
open Go.ChangeShapes Go.WideShapes Go.ChangeAt Go.RowKit
set_option linter.unusedVariables false

theorem own : ownKnob Ybad.prog.godebug = none := by kernel_rfl
theorem laidOut : laidOutB Ybad.prog = true := by kernel_rfl
theorem cells24 : Ybad.prog.cellsOf 24 = 1 := by kernel_rfl
theorem gTab : Ybad.prog.globalNamed Ybad.tabName = some 1 := by kernel_rfl
theorem tTab : (Ybad.prog.globals[1]?).map (·.type) = some 76 := by kernel_rfl
theorem cells76 : Ybad.prog.cellsOf 76 = 20 := by kernel_rfl

/-- What the listed variables give the walk: the table of powers of ten. -/
theorem tab_of {W : World} (h : laidMetH Ybad.prog Rows.lawS6381BWholeRow.laid W) : Go.Lib.TabIs Ybad.prog W Ybad.tabName .u64 Go.Lib.pow10Tab := by
  rw [MakeChecks.laidMetH_plain _ _ _ (by kernel_rfl)] at h
  obtain ⟨ps, ⟨g0, t0, cs0, f0, p0, q0, hg0, ht0, hv0, hd0, ⟨g1, t1, cs1, f1, p1, q1, hg1, ht1, hv1, hd1, ⟨g2, t2, cs2, f2, p2, q2, hg2, ht2, hv2, hd2, _, _⟩, _⟩, _⟩, _, _⟩ := h
  obtain rfl := Option.some.inj (gTab.symm.trans hg2)
  obtain rfl := Option.some.inj (tTab.symm.trans ht2)
  have e := Go.Lib.cells_of_tab (k := .u64) (zs := Go.Lib.pow10Tab) Ybad.underlying76 Ybad.underlying24 cells24 cells76 hd2
  unfold Go.Lib.TabIs
  rw [← e]
  exact hv2

theorem door_met (os : Os) (args : Array Value) : laidMetH Ybad.prog Rows.lawS6381BWholeRow.laid ((World.doorLaid Ybad.prog 400 os).forCall (fun _ _ => 0) ⟨#[], args, []⟩).memory :=
  laidMetH_of_parts3 (fuel := 8) (laidMet_of_run' 8 (by kernel_rfl) (by kernel_rfl)) (by kernel_rfl) (by kernel_rfl)

theorem cell_lt {w : World} {a : Addr} {v : Value} (h : w.cell? a = some v) : a.block < w.heap.size := by
  apply Classical.byContradiction
  intro hn
  have : w.heap[a.block]? = none := Array.getElem?_eq_none (by omega)
  simp [World.cell?, this] at h

set_option maxRecDepth 100000 in
theorem lifted (os : Os) (started : os.Started) (H : Type) (enc : TypeId × Value → H) :
    ReturnsInHanded {} Ybad.checked os 3 .any (fun w args => (Rows.lawS6381BWholeSpec.pre enc Ybad.prog Ybad.f3 [] false w args ∧ laidMetH Ybad.prog Rows.lawS6381BWholeRow.laid w) ∧ sizedMet enc Ybad.prog Ybad.f3 (OpenSpec.ofChange Rows.lawS6381BWholeSpec) false w args)
      (Rows.lawS6381BWholeSpec.post enc Ybad.prog Ybad.f3 false true false false) := by
  refine returnsInHanded_of_change_and (C := Ybad.checked) (X := fun w _ => laidMetH Ybad.prog Rows.lawS6381BWholeRow.laid w) (fun _ _ _ hh h => h.of_heap hh) own started (by kernel_rfl) Ybad.func3
    (ChangeSpec.witness_shaped (enc := enc) (C := Ybad.checked) (os := os) (X := fun w _ => laidMetH Ybad.prog Rows.lawS6381BWholeRow.laid w) false (World.doorLaid Ybad.prog 400 os) #[.pointer none] 8 rfl (World.shaped_of_RefB (by kernel_rfl) (by kernel_rfl)) (by kernel_rfl) (by kernel_rfl) (by kernel_rfl) (door_met os _)) ?_
  intro W base args ds gs before hval0 hW _ _ hL _
  have hval : ∀ (j : Nat) t v, Ybad.f3.params[j]? = some t → args[j]? = some v → Value.okWide Ybad.prog W .any base t v := hval0
  have hW' := hW
  obtain ⟨p, q, hA0, hV, rfl, hfz, hnd⟩ := hW
  have hA : DataW.TrodAll enc Ybad.prog W 0 (fun _ => true) true Ybad.f3.params.toList args.toList ds p := hA0
  rw [Ybad.params3] at hA hval
  obtain ⟨v0, d0, rfl, rfl, h0⟩ := trodAll_one hA
  obtain ⟨rfl, rfl⟩ := trodVars_none hV
  have k0 := h0
  have lt0 : ∀ x ∈ p, x.block < W.heap.size := by obtain ⟨m, hm⟩ := k0; exact DataW.trod_lt m _ _ _ hm
  have htab := tab_of hL
  have hwalk : ∀ v, v = v0 → Calls Ybad.prog 3 #[v] W fun e w' => e = .returned (.bool true) ∧ Below W.heap.size W w' := by
    rintro v rfl
    rcases open_ptr_int Ybad.underlying22 Ybad.underlying24 cells24 (hval 0 22 v rfl rfl) h0 with ⟨rfl, _, _⟩ | ⟨b, off, n, rfl, _, _, hcell, wn⟩
    · exact law_nil W
    · have hb := bounds_u64 wn
      obtain ⟨u, rfl⟩ := Int.eq_ofNat_of_zero_le hb.1
      exact law_some b off u (by have := hb.2; omega) W hcell (cell_lt hcell) htab
  clear hA0 hval0
  refine (hwalk v0 rfl).mono fun e W' ⟨he, bel⟩ => ?_
  subst he
  exact ⟨_, rfl, _, _, _, [], _, [], hW', trodAll_mk1 (shut_bool Ybad.underlying4 _), trodAll_mk1 (Below.trod laidOut (by kernel_rfl) (of_decide_eq_true (by kernel_rfl)) k0 bel lt0), rfl, bel.frame _, fun h => by cases h⟩

theorem over : Rows.LawS6381BWholeSaid :=
  OpenClaim.holds_of_wide 3 Ybad.f3 rfl rfl rfl rfl rfl rfl rfl ⟨rfl, rfl, rfl, rfl, rfl⟩ rfl rfl rfl rfl rfl (by kernel_rfl) Ybad.func3 (by kernel_rfl)
    (of_decide_eq_true (by kernel_rfl)) (by unfold Func.isWrapper; first | (rw [if_pos (by decide +kernel)]; kernel_rfl) | (rw [if_neg (by decide +kernel)]; exact ⟨rfl, rfl⟩))
    (fun os started H enc _ => lifted os started H enc)

theorem card : Rows.LawS6381BWholeCardSaid :=
  Claim7.holds_tied_plain_at .later [] [.data, .data, .data] true (true, "cf859283d7caffbb5c2336c5da7c95041313b3106a5c09c3ed10bac998e0b2e6") true
    over (fun _ h => by cases h) (by kernel_rfl) (fun _ h => by cases h) lawS6381BWhole_row_tie rfl ⟨rfl, rfl⟩ (by kernel_rfl) rfl
    (fun f fn hf hfn => by
      obtain rfl : f = 3 := Option.some.inj ((show Ybad.prog.funcNamed Rows.lawS6381BWholeRow.func = some 3 by kernel_rfl).symm.trans hf) |>.symm
      obtain rfl : fn = Ybad.f3 := (Option.some.inj (Ybad.func3.symm.trans hfn)).symm
      exact ⟨by kernel_rfl, fun j t ht => by
        rw [Ybad.params3] at ht
        have h3 : t = 22 := by
          rcases j with _ | j
          · simpa using ht.symm
          · simp at ht
        subst h3
        exact (show Ybad.prog.wantsStandIn 22 = false by kernel_rfl)⟩)
    (by kernel_rfl)
end Go.Proofs.YbulkebcyDoor.lawS6381BWhole
namespace Go.Proofs.YbulkebcyDoor
theorem lawS6381BWhole_card_proved : Rows.LawS6381BWholeCardSaid := lawS6381BWhole.card
end Go.Proofs.YbulkebcyDoor
