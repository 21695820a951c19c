import Derived.Test.YbulkebckRuns
namespace Go.Proofs.Ybulkebck
open Go.RowKit
set_option linter.unusedVariables false

theorem owns_form {w : World} {base e size : Nat} {v : Value} {n : Nat} {xs : List Value} (h : w.ownsRow base e size v n xs) : ∃ a cap, v = .slice a n cap := by
  rcases h.2 with ⟨rfl, rfl⟩ | ⟨g, cap, cur, rfl, _⟩
  · exact ⟨_, _, rfl⟩
  · exact ⟨_, _, rfl⟩
theorem owns_nil {w : World} {base e size : Nat} {v : Value} {xs : List Value} (h : w.ownsRow base e size v 0 xs) (hn : v = .slice none 0 0) : v = .slice none 0 0 := hn

theorem Yba.info44 : (Yba.prog.info? 44).map (fun i => (i.zero, i.size, i.bytes)) = some (some (.pointer none), 1, 8) := by kernel_rfl

set_option maxHeartbeats 400000 in
theorem pred_zero (T : Nat) (la : Option Addr) (c : Nat) (n : Int) (w : World) (hc : w.cell? ⟨T, 2, none⟩ = some (.slice la 0 c)) :
    Calls Yba.prog 11 #[.pointer (some ⟨T, 0, none⟩), .int .i64 n] w fun e w' => e = .returned (.slice none 0 0) ∧ w' = w := by
  go_enter Yba.func11, Yba.ntmps11
  go_wp2
  refine wp_loop_rounds 1 ?_
  rw [rounds_succ]
  go_wp2
  go_ret
  exact ⟨rfl, rfl⟩

theorem news_one (w : World) (v : Value) (t : TypeId) : ∀ j u, [v][j]? = some u → (w.alloc (.cells #[v] t)).cell? ((⟨w.heap.size, 0, none⟩ : Addr).add j) = some u := by
  intro j u hj
  rw [add0, (RowAt.new w t #[v]).cell]
  exact hj
theorem one_node (B j : Nat) : ∀ u ∈ [nodeV B j], u.oneCell' = true := by
  intro u hu
  simp at hu
  subst hu
  rfl

/-- Behind j steps of predecessors' loop. -/
def Gath (W : World) (B N : Nat) (f : Nat → Nat) (n : Int) (j : Nat) (v : Value) (wr : World) : Prop :=
  wr.ownsRow W.heap.size 44 1 v (bw f N j).length ((bw f N j).map (nodeV B)) ∧ (bw f N j = [] → v = .slice none 0 0) ∧ (bw f N j).length ≤ n.toNat ∧ Below W.heap.size W wr

theorem gath_app {W : World} {B N : Nat} {f : Nat → Nat} {n : Int} {j : Nat} {v v' : Value} {wr w1 : World} {o : Obj} (h : Gath W B N f n j v wr) (hlt : ((bw f N j).length : Int) < n) (hj : j + 1 ≤ N)
    (hc : j = 0 ∨ f (N - 1 - j) ≠ f (N - j)) (hown : w1.ownsRow W.heap.size 44 1 v' ((bw f N j).length + 1) ((bw f N j).map (nodeV B) ++ [nodeV B (f (N - 1 - j))])) (hg : (wr.alloc o).grownBy w1 v.ownBlock) : Gath W B N f n (j + 1) v' w1 := by
  have e : bw f N (j + 1) = bw f N j ++ [f (N - 1 - j)] := by rw [bw_succ, if_pos hc]
  unfold Gath
  rw [e]
  refine ⟨by simpa using hown, by simp, by simp; omega, ?_⟩
  have h0 := h.2.2.2.alloc h.2.2.2.size o
  refine h0.grown hg (by have := h.2.2.2.size; simp; omega) (fun k hk => ?_)
  rcases h.1.2 with ⟨rfl, _⟩ | ⟨g, cap, cur, rfl, hb, _⟩
  · simp [Value.ownBlock] at hk
  · simp [Value.ownBlock] at hk; omega

theorem gath_skip {W : World} {B N : Nat} {f : Nat → Nat} {n : Int} {j : Nat} {v : Value} {wr : World} (h : Gath W B N f n j v wr) (hc : ¬ (j = 0 ∨ f (N - 1 - j) ≠ f (N - j))) : Gath W B N f n (j + 1) v wr := by
  have e : bw f N (j + 1) = bw f N j := by rw [bw_succ, if_neg hc]
  unfold Gath
  rw [e]
  exact h

theorem gath_drew {W : World} {B N : Nat} {f : Nat → Nat} {n : Int} {j : Nat} {v : Value} {wr : World} (h : Gath W B N f n j v wr) (q : Nat) : Gath W B N f n j v (wr.drewN q) :=
  ⟨h.1, h.2.1, h.2.2.1, below_drewN h.2.2.2 q⟩

/-- What predecessors hands back. -/
def Got (W : World) (B N : Nat) (f : Nat → Nat) (n : Int) (v : Value) (w' : World) : Prop :=
  w'.ownsRow W.heap.size 44 1 v ((bw f N N).take n.toNat).length (((bw f N N).take n.toNat).map (nodeV B)) ∧ ((bw f N N).take n.toNat = [] → v = .slice none 0 0) ∧ Below W.heap.size W w'

theorem gath_end {W : World} {B N : Nat} {f : Nat → Nat} {n : Int} {j : Nat} {v : Value} {wr : World} (h : Gath W B N f n j v wr) (hj : j ≤ N) (hs : j = N ∨ n ≤ ((bw f N j).length : Int)) : Got W B N f n v wr := by
  unfold Got
  have e : (bw f N N).take n.toNat = bw f N j := by
    rcases hs with rfl | hs
    · exact List.take_of_length_le h.2.2.1
    · obtain ⟨r, hr⟩ := bw_prefix f N j N hj
      rw [hr]
      have hl : (bw f N j).length = n.toNat := by have := h.2.2.1; omega
      rw [← hl]
      simp
  rw [e]
  exact ⟨h.1, h.2.1, h.2.2.2⟩

theorem down_q (j q N : Nat) (h : N = j + q + 1) : (j + 1 = N ∧ Value.int .i64 ((q : Int) - 1) = .int .i64 (-1)) ∨ ∃ i : Nat, N = (j + 1) + i + 1 ∧ Value.int .i64 ((q : Int) - 1) = .int .i64 (i : Int) := by
  cases q with
  | zero => exact .inl ⟨by omega, rfl⟩
  | succ i => exact .inr ⟨i, by omega, by congr 1; omega⟩

theorem owns_drewN {w : World} {base e size : Nat} {v : Value} {n : Nat} {xs : List Value} (h : w.ownsRow base e size v n xs) (q : Nat) : (w.drewN q).ownsRow base e size v n xs := h

set_option maxRecDepth 100000 in
set_option maxHeartbeats 1600000 in
theorem pred_pos (T L B N : Nat) (f : Nat → Nat) (n : Int) (W : World) (hN0 : 0 < N) (hN : N ≤ 1048576) (hn : n ≤ 9223372036854775807) (hT : T < W.heap.size) (hL : L < W.heap.size)
    (hc : W.cell? ⟨T, 2, none⟩ = some (.slice (some ⟨L, 0, none⟩) N N)) (hl : ∀ i, i < N → W.cell? ⟨L, i, none⟩ = some (nodeV B (f i))) (hnd : ∀ i, i < N → NodeAt W B (f i)) :
    Calls Yba.prog 11 #[.pointer (some ⟨T, 0, none⟩), .int .i64 n] W fun e w' => ∃ v, e = .returned v ∧ Got W B N f n v w' := by
  have HL : Hid (∀ i, i < N → W.cell? ⟨L, i, none⟩ = some (nodeV B (f i))) := hl
  have HN : Hid (∀ i, i < N → NodeAt W B (f i)) := hnd
  have HC : Hid (W.cell? ⟨T, 2, none⟩ = some (.slice (some ⟨L, 0, none⟩) N N)) := hc
  obtain ⟨i0, hi, hz0, hz1, hz2⟩ := info_parts Yba.info44
  clear hl hnd
  go_enter Yba.func11, Yba.ntmps11
  go_wp2
  clear hc
  go_loopw [5, 6] (fun v i wr => ∃ j : Nat, j ≤ N ∧ ((j = N ∧ i = .int .i64 (-1)) ∨ ∃ q : Nat, N = j + q + 1 ∧ i = .int .i64 (q : Nat)) ∧ Gath W B N f n j v wr) (fun _ i _ => (intOf i + 1).toNat)
  case atStart =>
    refine ⟨0, Nat.zero_le _, .inr ⟨N - 1, by omega, by go_num⟩, World.ownsRow_nil _ _ _ _, fun _ => rfl, by simp [bw], Below.refl _ _⟩
  case round =>
    obtain ⟨j, hj, hi', hg⟩ := hrel
    obtain ⟨a, cap, rfl⟩ := owns_form hg.1
    have hlen := bw_len f N j
    obtain ⟨l, hl⟩ : ∃ l, l = (bw f N j).length := ⟨_, rfl⟩
    have HG : Hid (Gath W B N f n j (.slice a l cap) wr) := by rw [hl]; exact hg
    rw [← hl] at hlen ⊢
    have HLn : Hid (l = (bw f N j).length) := hl
    have hbel := hg.2.2.2
    have c2 : wr.cell? ⟨T, 2, none⟩ = some (.slice (some ⟨L, 0, none⟩) N N) := (hbel.cell (p := ⟨T, 2, none⟩) hT).trans HC.out
    clear hg hl
    rcases hi' with ⟨rfl, rfl⟩ | ⟨q, hq, rfl⟩
    · go_wp2
      go_ret
      exact ⟨_, rfl, gath_end HG.out (Nat.le_refl _) (.inl rfl)⟩
    · have hqN : (q : Int) < (N : Int) := by omega
      have HQ : Hid (N = j + q + 1) := hq
      have hqj : j + q < N := by omega
      clear hq
      by_cases hlt : (l : Int) < n
      · have y0 : wr.cell? ⟨L, q, none⟩ = some (.pointer (some ⟨B + 1 + f q, 0, none⟩)) := (hbel.cell (p := ⟨L, q, none⟩) hL).trans (HL.out q (by omega))
        have HO : Hid (wr.ownsRow W.heap.size 44 1 (.slice a l cap) l ((bw f N j).map (nodeV B))) := by have := HG.out.1; rw [← HLn.out] at this; exact this
        by_cases hj0 : j = 0
        · have hd : ((q : Int) == (N : Int) - 1) = true := beq_iff_eq.2 (by have := HQ.out; omega)
          have HCC : Hid (j = 0 ∨ f (N - 1 - j) ≠ f (N - j)) := Or.inl hj0
          clear hj0
          go_wp2
          go_quiet (fail)
          go_wp2_with (at_builtin; refine wpList_append_own _ rfl (.tmp 49) (.tmp 57) 43 rfl W.heap.size 44 i0 _ 1 8 Yba.underlying43 hi hz0 hz1 hz2 rfl (by decide) _ l ((bw f N j).map (nodeV B)) rfl ((owns_drewN HO.out _).alloc _) ⟨wr.heap.size, 0, none⟩ 1 1 [nodeV B (f q)] rfl rfl (news_one _ _ _) (one_node _ _) ?c3 ?c4 ?c5 ?_)
          case c3 => unfold maxLen; omega
          case c4 => omega
          case c5 => have := hbel.size; simp; omega
          intro v' w1 hown' hgrow _
          obtain ⟨a1, cap1, rfl⟩ := owns_form hown'
          have HG1 : Hid (Gath W B N f n (j + 1) (.slice a1 (l + 1) cap1) w1) := gath_app (gath_drew HG.out _) (by rw [← HLn.out]; exact hlt) (by omega) HCC.out (by rw [show N - 1 - j = q by (have := HQ.out; omega), ← HLn.out]; exact hown') hgrow
          clear hown' hgrow
          go_wp2
          go_roundw
          case rel => exact ⟨j + 1, by omega, down_q j q N HQ.out, HG1.out⟩
          case measure => simp [intOf]
        · have hd : ((q : Int) == (N : Int) - 1) = false := beq_eq_false_iff_ne.2 (by have := HQ.out; omega)
          have hqN1 : q + 1 < N := by have := HQ.out; omega
          have y1 : wr.cell? ⟨L, q + 1, none⟩ = some (.pointer (some ⟨B + 1 + f (q + 1), 0, none⟩)) := (hbel.cell (p := ⟨L, q + 1, none⟩) hL).trans (HL.out (q + 1) hqN1)
          have n0 : NodeAt wr B (f q) := (HN.out q (by omega)).kept hbel (HN.out q (by omega)).lt
          have n1 : NodeAt wr B (f (q + 1)) := (HN.out (q + 1) hqN1).kept hbel (HN.out (q + 1) hqN1).lt
          have e1 : N - 1 - j = q := by have := HQ.out; omega
          have e2 : N - j = q + 1 := by have := HQ.out; omega
          have hnn : ∀ x, (binOp .neq 44 (.pointer (some ⟨B + 1 + f q, 0, none⟩)) (.pointer (some ⟨B + 1 + f (q + 1), 0, none⟩))).run Yba.prog (wr.drewN x) = .ok (.bool (!(f q == f (q + 1)))) (wr.drewN x) := fun x => neq_nodes n0 n1
          by_cases hff : f q = f (q + 1)
          · have hb : (f q == f (q + 1)) = true := beq_iff_eq.2 hff
            have HCC : Hid (¬ (j = 0 ∨ f (N - 1 - j) ≠ f (N - j))) := show ¬ (j = 0 ∨ f (N - 1 - j) ≠ f (N - j)) by rw [e1, e2]; exact fun h => h.elim hj0 (fun h => h hff)
            clear hff e1 e2 n0 n1
            rw [hb] at hnn
            go_wp2
            go_quiet (fail)
            go_wp2
            go_roundw
            case rel => exact ⟨j + 1, by omega, down_q j q N HQ.out, gath_skip (gath_drew HG.out _) HCC.out⟩
            case measure => simp [intOf]
          · have hb : (f q == f (q + 1)) = false := beq_eq_false_iff_ne.2 hff
            have HCC : Hid (j = 0 ∨ f (N - 1 - j) ≠ f (N - j)) := Or.inr (by rw [e1, e2]; exact hff)
            clear hff e1 e2 n0 n1
            rw [hb] at hnn
            go_wp2
            go_quiet (fail)
            go_wp2_with (at_builtin; refine wpList_append_own _ rfl (.tmp 49) (.tmp 57) 43 rfl W.heap.size 44 i0 _ 1 8 Yba.underlying43 hi hz0 hz1 hz2 rfl (by decide) _ l ((bw f N j).map (nodeV B)) rfl ((owns_drewN HO.out _).alloc _) ⟨wr.heap.size, 0, none⟩ 1 1 [nodeV B (f q)] rfl rfl (news_one _ _ _) (one_node _ _) ?c3 ?c4 ?c5 ?_)
            case c3 => unfold maxLen; omega
            case c4 => omega
            case c5 => have := hbel.size; simp; omega
            intro v' w1 hown' hgrow _
            obtain ⟨a1, cap1, rfl⟩ := owns_form hown'
            have HG1 : Hid (Gath W B N f n (j + 1) (.slice a1 (l + 1) cap1) w1) := gath_app (gath_drew HG.out _) (by rw [← HLn.out]; exact hlt) (by omega) HCC.out (by rw [show N - 1 - j = q by (have := HQ.out; omega), ← HLn.out]; exact hown') hgrow
            clear hown' hgrow
            go_wp2
            go_roundw
            case rel => exact ⟨j + 1, by omega, down_q j q N HQ.out, HG1.out⟩
            case measure => simp [intOf]
      · have hd : decide ((l : Int) < n) = false := decide_eq_false hlt
        go_wp2
        go_ret
        exact ⟨_, rfl, gath_end HG.out hj (.inr (by rw [← HLn.out]; omega))⟩
end Go.Proofs.Ybulkebck
