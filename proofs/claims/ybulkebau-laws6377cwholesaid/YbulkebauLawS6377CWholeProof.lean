/- The proof of Rows.LawS6377CWholeSaid; the frame is the guide's shell turned to this function's ten parameters. -/
import Derived.Test.YbulkebauRows
import Derived.Test.YbulkebauLawTA0
import Derived.Test.YbulkebauLawTA1
import Derived.Test.YbulkebauLawTB0
import Derived.Test.YbulkebauLawTB1
import Derived.Test.YbulkebauLawTC0
import Derived.Test.YbulkebauLawTC1
import Derived.Test.YbulkebauLawFA0
import Derived.Test.YbulkebauLawFA1
import Derived.Test.YbulkebauLawFB0
import Derived.Test.YbulkebauLawFB1
import Derived.Test.YbulkebauLawFC0
import Derived.Test.YbulkebauLawFC1
import Derived.Test.YbulkebauReads
import Derived.WalkKit
import Derived.ProofKit
import Derived.OpenShut
import Derived.ShutString
import Derived.ChangeOld
import Derived.Below
import Derived.SizedLaws
namespace Go.Proofs.Ybulkebau.lawS6377CWhole
open Go.ChangeShapes Go.WideShapes Go.ChangeAt Go.RowKit
open Go.ChangeMaps (open_string shut_string)
set_option linter.unusedVariables false

theorem own : ownKnob Yba.prog.godebug = none := by kernel_rfl
theorem laidOut : laidOutB Yba.prog = true := by kernel_rfl

theorem walk (oa a1 a5 : Option Addr) (N oc n1 c1 n5 c5 : Nat) (ht qg fl : Bool) (exp tr qs : Int) (ad : ByteArray) (ka : Nat → Option Addr) (kn kc : Nat → Nat) (l : Nat → List UInt8) (sa : Nat → ByteArray) (l1 : List UInt8) (ss : Nat → ByteArray) (w : World)
    (hN : N ≤ 140737488351232) (hn1 : n1 ≤ 140737488351232) (had : ad.size ≤ 140737488351232) (hn5 : n5 ≤ 140737488351232) (htr : 0 ≤ tr) (htr' : tr < 18446744073709551616)
    (hout : Out w oa N ka kn kc l sa) (hkey : Sl w a1 n1 c1 (bts l1)) (hl1 : n1 = l1.length) (hadr : Sl w a5 n5 c5 (sts n5 ss)) :
    Calls Yba.prog 5 #[.slice oa N oc, .slice a1 n1 c1, .bool ht, .int .u64 exp, .string ad, .slice a5 n5 c5, .int .u64 tr, .bool qg, .int .i64 qs, .bool fl] w fun e w' => e = .returned (.bool true) ∧ Below w.heap.size w w' := by
  by_cases hbig : 1048576 < (N : Int) + (n1 : Int) + (ad.size : Int) + (n5 : Int)
  · exact bigC oa a1 a5 N oc n1 c1 n5 c5 ht qg fl exp tr qs ad w hN hn1 had hn5 hbig
  by_cases h0 : n5 = 0
  · cases ht
    · cases fl
      · by_cases hq : qs = 64
        · subst hq
          exact lawC_FB0 oa a1 a5 N oc n1 c1 n5 c5 false qg false exp tr 0 ad ka kn kc l sa l1 ss w (by omega) (by omega) (by omega) (by omega) (by omega) (by omega) htr htr' hout hkey hl1 hadr
        · exact lawC_FC0 oa a1 a5 N oc n1 c1 n5 c5 false qg false exp tr qs ad ka kn kc l sa l1 ss w (by omega) (by omega) (by omega) (by omega) (by omega) hq (by omega) htr htr' hout hkey hl1 hadr
      · exact lawC_FA0 oa a1 a5 N oc n1 c1 n5 c5 false qg true exp tr qs ad ka kn kc l sa l1 ss w (by omega) (by omega) (by omega) (by omega) (by omega) (by omega) htr htr' hout hkey hl1 hadr
    · cases fl
      · by_cases hq : qs = 64
        · subst hq
          exact lawC_TB0 oa a1 a5 N oc n1 c1 n5 c5 true qg false exp tr 0 ad ka kn kc l sa l1 ss w (by omega) (by omega) (by omega) (by omega) (by omega) (by omega) htr htr' hout hkey hl1 hadr
        · exact lawC_TC0 oa a1 a5 N oc n1 c1 n5 c5 true qg false exp tr qs ad ka kn kc l sa l1 ss w (by omega) (by omega) (by omega) (by omega) (by omega) hq (by omega) htr htr' hout hkey hl1 hadr
      · exact lawC_TA0 oa a1 a5 N oc n1 c1 n5 c5 true qg true exp tr qs ad ka kn kc l sa l1 ss w (by omega) (by omega) (by omega) (by omega) (by omega) (by omega) htr htr' hout hkey hl1 hadr
  · cases ht
    · cases fl
      · by_cases hq : qs = 64
        · subst hq
          exact lawC_FB1 oa a1 a5 N oc n1 c1 n5 c5 false qg false exp tr 0 ad ka kn kc l sa l1 ss w (by omega) (by omega) (by omega) (by omega) (by omega) (by omega) htr htr' hout hkey hl1 hadr
        · exact lawC_FC1 oa a1 a5 N oc n1 c1 n5 c5 false qg false exp tr qs ad ka kn kc l sa l1 ss w (by omega) (by omega) (by omega) (by omega) (by omega) hq (by omega) htr htr' hout hkey hl1 hadr
      · exact lawC_FA1 oa a1 a5 N oc n1 c1 n5 c5 false qg true exp tr qs ad ka kn kc l sa l1 ss w (by omega) (by omega) (by omega) (by omega) (by omega) (by omega) htr htr' hout hkey hl1 hadr
    · cases fl
      · by_cases hq : qs = 64
        · subst hq
          exact lawC_TB1 oa a1 a5 N oc n1 c1 n5 c5 true qg false exp tr 0 ad ka kn kc l sa l1 ss w (by omega) (by omega) (by omega) (by omega) (by omega) (by omega) htr htr' hout hkey hl1 hadr
        · exact lawC_TC1 oa a1 a5 N oc n1 c1 n5 c5 true qg false exp tr qs ad ka kn kc l sa l1 ss w (by omega) (by omega) (by omega) (by omega) (by omega) hq (by omega) htr htr' hout hkey hl1 hadr
      · exact lawC_TA1 oa a1 a5 N oc n1 c1 n5 c5 true qg true exp tr qs ad ka kn kc l sa l1 ss w (by omega) (by omega) (by omega) (by omega) (by omega) (by omega) htr htr' hout hkey hl1 hadr

set_option maxRecDepth 100000 in
theorem lifted (os : Os) (started : os.Started) (H : Type) (enc : TypeId × Value → H) :
    ReturnsInHanded {} Yba.checked os 5 .any (Rows.lawS6377CWholeSpec.pre6 enc Yba.prog Yba.f5 Rows.lawS6377CWholeRow.domain false) (Rows.lawS6377CWholeSpec.post enc Yba.prog Yba.f5 false true false false) := by
  refine returnsInHanded_of_change_sized (C := Yba.checked) own started (by kernel_rfl) Yba.func5
    (ChangeSpec.witness6 (enc := enc) (C := Yba.checked) false ⟨#[], #[.slice none 0 0, .slice none 0 0, .bool false, .int .u64 0, .string ⟨#[]⟩, .slice none 0 0, .int .u64 0, .bool false, .int .i64 0, .bool false], []⟩ 8 (by kernel_rfl) (by kernel_rfl) (by kernel_rfl) (by kernel_rfl)) ?_
  intro W base args ds gs before hval0 hW hcnd hsz0 _
  have hval : ∀ (j : Nat) t v, Yba.f5.params[j]? = some t → args[j]? = some v → Value.okWide Yba.prog W .any base t v := hval0
  have hsz : (DataW.weightsEach Yba.prog (Yba.f5.params.toList ++ Rows.lawS6377CWholeSpec.plain.varTypes Yba.prog) (ds ++ gs)).all (· ≤ reachBytes) = true := hsz0
  have hW' := hW
  obtain ⟨p, q, hA0, hV, rfl, hfz, hnd⟩ := hW
  have hA : DataW.TrodAll enc Yba.prog W 0 (fun _ => true) true Yba.f5.params.toList args.toList ds p := hA0
  rw [Yba.params5] at hA hval hsz
  obtain ⟨v0, vs0, d0, ds0, p0, q0, hargs, rfl, rfl, h0, r0⟩ := trodAll_cons hA
  obtain ⟨v1, vs1, d1, ds1, p1, q1, rfl, rfl, rfl, h1, r1⟩ := trodAll_cons r0
  obtain ⟨v2, vs2, d2, ds2, p2, q2, rfl, rfl, rfl, h2, r2⟩ := trodAll_cons r1
  obtain ⟨v3, vs3, d3, ds3, p3, q3, rfl, rfl, rfl, h3, r3⟩ := trodAll_cons r2
  obtain ⟨v4, vs4, d4, ds4, p4, q4, rfl, rfl, rfl, h4, r4⟩ := trodAll_cons r3
  obtain ⟨v5, vs5, d5, ds5, p5, q5, rfl, rfl, rfl, h5, r5⟩ := trodAll_cons r4
  obtain ⟨v6, vs6, d6, ds6, p6, q6, rfl, rfl, rfl, h6, r6⟩ := trodAll_cons r5
  obtain ⟨v7, vs7, d7, ds7, p7, q7, rfl, rfl, rfl, h7, r7⟩ := trodAll_cons r6
  obtain ⟨v8, vs8, d8, ds8, p8, q8, rfl, rfl, rfl, h8, r8⟩ := trodAll_cons r7
  obtain ⟨v9, vs9, d9, ds9, p9, q9, rfl, rfl, rfl, h9, r9⟩ := trodAll_cons r8
  obtain ⟨rfl, rfl, rfl⟩ := trodAll_nil r9
  obtain rfl : args = #[v0, v1, v2, v3, v4, v5, v6, v7, v8, v9] := by cases args; simp_all
  obtain ⟨rfl, rfl⟩ := trodVars_none hV
  have hr0 : ∀ m ∈ d0.weights Yba.prog 53, m ≤ reachBytes := fun m hm => of_decide_eq_true (List.all_eq_true.1 hsz m (DataW.weights_mem_each (j := 0) rfl rfl m hm))
  have hr1 : ∀ m ∈ d1.weights Yba.prog 22, m ≤ reachBytes := fun m hm => of_decide_eq_true (List.all_eq_true.1 hsz m (DataW.weights_mem_each (j := 1) rfl rfl m hm))
  have hr4 : ∀ m ∈ d4.weights Yba.prog 9, m ≤ reachBytes := fun m hm => of_decide_eq_true (List.all_eq_true.1 hsz m (DataW.weights_mem_each (j := 4) rfl rfl m hm))
  have hr5 : ∀ m ∈ d5.weights Yba.prog 54, m ≤ reachBytes := fun m hm => of_decide_eq_true (List.all_eq_true.1 hsz m (DataW.weights_mem_each (j := 5) rfl rfl m hm))
  obtain ⟨a0, len0, cap0, rfl⟩ := okWide_slice Yba.underlying53 (hval 0 53 v0 rfl rfl)
  have k0 := h0
  have lt0 : ∀ x ∈ p0, x.block < W.heap.size := by obtain ⟨m, hm⟩ := k0; exact DataW.trod_lt m _ _ _ hm
  obtain ⟨hN, ka, kn, kc, l, sa, hout⟩ : len0 ≤ 140737488351232 ∧ ∃ ka kn kc l sa, Out W a0 len0 ka kn kc l sa := by
    obtain ⟨m, hm⟩ := h0
    exact outs_of hm hr0
  obtain ⟨a1, len1, cap1, rfl⟩ := okWide_slice Yba.underlying22 (hval 1 22 v1 rfl rfl)
  have k1 := h1
  have lt1 : ∀ x ∈ p1, x.block < W.heap.size := by obtain ⟨m, hm⟩ := k1; exact DataW.trod_lt m _ _ _ hm
  obtain ⟨l1, hl1, hn1, hkey⟩ : ∃ l1 : List UInt8, len1 = l1.length ∧ len1 ≤ 140737488351232 ∧ Sl W a1 len1 cap1 (bts l1) := by
    obtain ⟨m, hm⟩ := h1
    obtain ⟨a, n, c, l1, e, h1, h2, h3⟩ := bytes_of hm hr1
    simp [Value.cells] at e
    obtain ⟨rfl, rfl, rfl⟩ := e
    exact ⟨l1, h1, h2, h3⟩
  obtain ⟨b2, rfl, rfl, rfl⟩ := open_bool Yba.underlying4 (hval 2 4 v2 rfl rfl) h2
  obtain ⟨a3, rfl, rfl, rfl, w3⟩ := open_int Yba.underlying42 (hval 3 42 v3 rfl rfl) h3
  obtain ⟨s4, rfl, rfl, rfl, ws4⟩ := open_string Yba.underlying9 (hval 4 9 v4 rfl rfl) h4
  have had := hr4 s4.data.toList.length (by simp [DataW.weights])
  rw [reach47] at had
  have had' : s4.size ≤ 140737488351232 := by simpa using had
  obtain ⟨a5, len5, cap5, rfl⟩ := okWide_slice Yba.underlying54 (hval 5 54 v5 rfl rfl)
  have k5 := h5
  have lt5 : ∀ x ∈ p5, x.block < W.heap.size := by obtain ⟨m, hm⟩ := k5; exact DataW.trod_lt m _ _ _ hm
  obtain ⟨ss, hn5, hadr⟩ : ∃ ss : Nat → ByteArray, len5 ≤ 140737488351232 ∧ Sl W a5 len5 cap5 (sts len5 ss) := by
    obtain ⟨m, hm⟩ := h5
    obtain ⟨a, n, c, ss, e, h1, h2⟩ := strs_of hm hr5
    simp [Value.cells] at e
    obtain ⟨rfl, rfl, rfl⟩ := e
    exact ⟨ss, h1, h2⟩
  obtain ⟨a6, rfl, rfl, rfl, w6⟩ := open_int Yba.underlying55 (hval 6 55 v6 rfl rfl) h6
  obtain ⟨b7, rfl, rfl, rfl⟩ := open_bool Yba.underlying4 (hval 7 4 v7 rfl rfl) h7
  obtain ⟨a8, rfl, rfl, rfl, w8⟩ := open_int Yba.underlying3 (hval 8 3 v8 rfl rfl) h8
  obtain ⟨b9, rfl, rfl, rfl⟩ := open_bool Yba.underlying4 (hval 9 4 v9 rfl rfl) h9
  have htr := bounds_u64 w6
  clear hA0 hval0
  refine (walk a0 a1 a5 len0 cap0 len1 cap1 len5 cap5 b2 b7 b9 a3 a6 a8 s4 ka kn kc l sa l1 ss W hN hn1 had' hn5 htr.1 (by have := htr.2; omega) hout hkey hl1 hadr).mono fun e W' ⟨he, bel⟩ => ?_
  subst he
  exact ⟨_, rfl, _, _, _, [], _, [], hW', trodAll_mk1 (shut_bool Yba.underlying4 _), (trodAll_cons_mk (Below.trod laidOut (by kernel_rfl) (of_decide_eq_true (by kernel_rfl)) k0 bel lt0) (trodAll_cons_mk (Below.trod laidOut (by kernel_rfl) (of_decide_eq_true (by kernel_rfl)) k1 bel lt1) (trodAll_cons_mk (shut_bool Yba.underlying4 _) (trodAll_cons_mk (shut_int Yba.underlying42 w3) (trodAll_cons_mk (shut_string Yba.underlying9 ws4) (trodAll_cons_mk (Below.trod laidOut (by kernel_rfl) (of_decide_eq_true (by kernel_rfl)) k5 bel lt5) (trodAll_cons_mk (shut_int Yba.underlying55 w6) (trodAll_cons_mk (shut_bool Yba.underlying4 _) (trodAll_cons_mk (shut_int Yba.underlying3 w8) (trodAll_cons_mk (shut_bool Yba.underlying4 _) trodAll_mk0)))))))))), rfl, bel.frame _, fun h => by cases h⟩

theorem over : Rows.lawS6377CWholeRow.holds Yba.pinned (OpenSpec.ofChange Rows.lawS6377CWholeSpec) :=
  OpenClaim.holds_of_wide 5 Yba.f5 rfl rfl rfl rfl rfl rfl rfl ⟨rfl, rfl, rfl, rfl, rfl⟩ rfl rfl rfl rfl rfl (by kernel_rfl) Yba.func5 (by kernel_rfl)
    (of_decide_eq_true (by kernel_rfl)) (by unfold Func.isWrapper; first | (rw [if_pos (by decide +kernel)]; kernel_rfl) | (rw [if_neg (by decide +kernel)]; exact ⟨rfl, rfl⟩))
    (fun os started H enc _ => lifted os started H enc)

/-- ████ THE STATEMENT ████ -/
theorem proved : Rows.LawS6377CWholeSaid := over
end Go.Proofs.Ybulkebau.lawS6377CWhole
namespace Go.Proofs.Ybulkebau
theorem lawS6377CWhole_proved : Rows.LawS6377CWholeSaid := lawS6377CWhole.proved
end Go.Proofs.Ybulkebau
