import Derived.Test.YbulkebckEv
namespace Go.Proofs.Ybulkebck
open Go.RowKit
set_option linter.unusedVariables false

set_option maxRecDepth 100000 in
set_option maxHeartbeats 800000 in
theorem answer_any (E base n : Nat) (v : Value) (xs : List Value) (W : World) (hn : n ≤ 100) (hE : RowAt W E 42 [v])
    (hown : W.ownsRow base 5 1 v n xs) (hEb : E < base) (hb : base ≤ W.heap.size) (hv : ∃ a c, v = .slice a n c) :
    Calls Yba.prog 12 #[.pointer (some ⟨E, 0, none⟩)] W fun e w' => e = .returned (.tuple #[]) ∧ EvS base E E W v (n + 1) (xs ++ [.int .u8 97]) w' := by
  obtain ⟨i0, hi, hz0, hz1, hz2⟩ := info_parts Yba.info5
  obtain ⟨va, vc, rfl⟩ := hv
  have e0 : W.cell? ⟨E, 0, none⟩ = some (.slice va n vc) := hE.cell 0
  have f0 := hE.free 0
  have HE : Hid (RowAt W E 42 [.slice va n vc]) := hE
  have HO : Hid (W.ownsRow base 5 1 (.slice va n vc) n xs) := hown
  have hEl : E < W.heap.size := hE.lt
  have HOb : Hid (∀ k, (Value.slice va n vc).ownBlock = some k → base ≤ k) := fun k hk => (hown.lt k hk).1
  clear hE hown
  go_enter Yba.func12, Yba.ntmps12
  go_wp2_with (at_builtin; refine wpList_append_lies _ rfl (.tmp 1) (.tmp 2) 42 rfl base 5 i0 _ 1 1 Yba.underlying42 hi hz0 hz1 hz2 rfl (by decide) _ n xs rfl (HO.out.alloc _) ⟨W.heap.size, 0, none⟩ 1 1 [.int .u8 97] rfl rfl (news_one _ _ _) (by simp [Value.oneCell']) (by decide) (by unfold maxLen; omega) (by omega) (by simp; omega) _ rfl ?_; intro g cap w1 hown hgrow hat hlt; have z0 := ev_cells hgrow rfl HOb.out hb ⟨E, 0, none⟩ hEb; have z1 := z0.1.trans e0; have z2 := z0.2.trans f0; clear z0; have HR : Hid (EvS base E E W (.slice va n vc) (n + 1) (xs ++ [.int .u8 97]) (w1.setCell ⟨E, 0, none⟩ (.slice (some ⟨g, 0, none⟩) (n + 1) cap))) := ev_fin HE.out hEb hb HOb.out hgrow rfl rfl rfl rfl hown hat; clear hown hgrow hat hlt)
  go_end0
  exact ⟨rfl, HR.out⟩

theorem Fr.ofAlloc {E T : Nat} {r : Option Nat} {W X : World} {o : Obj} (h : Fr E T r (W.alloc o) X) : Fr E T r W X :=
  ⟨h.os, h.tape, h.output, by have := h.size; simp at this; omega, fun k hk h1 h2 h3 => by rw [h.block k (by simp; omega) h1 h2 h3, Below.heap_alloc _ _ _ hk]⟩
theorem ListS.ofAlloc {base E T : Nat} {W X : World} {o : Obj} {v : Value} {n : Nat} {xs news : List Value} {cs : Value → List Value} (h : ListS base E T (W.alloc o) v n xs cs news X) : ListS base E T W v n xs cs news X := by
  obtain ⟨v', g, cap, h1, h2, h3, h4, h5, h6, h7, h8, h9⟩ := h
  simp only [World.size_alloc] at h4 h7
  exact ⟨v', g, cap, h1, h2, h3.ofAlloc, fun k hk => (h4 k hk).elim .inl (fun h => .inr (by omega)), h5, h6, by omega, h8, h9⟩
theorem news_row (w : World) (cs : Array Value) (t : TypeId) : ∀ j u, cs.toList[j]? = some u → (w.alloc (.cells cs t)).cell? ((⟨w.heap.size, 0, none⟩ : Addr).add j) = some u := by
  intro j u hj
  rw [add0, (RowAt.new w t cs).cell]
  exact hj

theorem Yba.info30 : (Yba.prog.info? 30).map (fun i => (i.zero, i.size, i.bytes)) = some (some (.agg #[.int .u64 0, .int .u32 0, .int .i64 0]), 3, 24) := by kernel_rfl

set_option maxRecDepth 100000 in
set_option maxHeartbeats 1600000 in
theorem learn_any (T E base n : Nat) (v mm nx an : Value) (op og os : Int) (xs : List Value) (W : World) (hn : n ≤ 100) (hT : RowAt W T 64 [an, .pointer (some ⟨E, 0, none⟩), nx, .slice none 0 0, mm]) (hE : RowAt W E 42 [v])
    (hown : W.ownsRow base 5 1 v n xs) (hEb : E < base) (hTb : T < base) (hb : base ≤ W.heap.size) (hTE : T ≠ E) (hv : ∃ a c, v = .slice a n c) :
    Calls Yba.prog 58 #[.pointer (some ⟨T, 0, none⟩), .agg #[.int .u64 op, .int .u32 og, .int .i64 os]] W fun e w' => e = .returned (.tuple #[]) ∧ ListS base E T W v (n + 1) (xs ++ [.int .u8 108]) (fun s => [an, .pointer (some ⟨E, 0, none⟩), nx, s, mm]) [.int .u64 op, .int .u32 og, .int .i64 os] w' := by
  obtain ⟨i0, hi, hz0, hz1, hz2⟩ := info_parts Yba.info5
  obtain ⟨va, vc, rfl⟩ := hv
  go_enter Yba.func58, Yba.ntmps58
  go_upto_region 1 with fail
  obtain ⟨W1, hW1⟩ : ∃ W1, W1 = W.alloc (.cells #[.int .u64 op, .int .u32 og, .int .i64 os] 30) := ⟨_, rfl⟩
  obtain ⟨N0, hN0⟩ : ∃ N0, N0 = W.heap.size := ⟨_, rfl⟩
  rw [← hW1, ← hN0]
  have hT1 : RowAt W1 T 64 [an, .pointer (some ⟨E, 0, none⟩), nx, .slice none 0 0, mm] := by rw [hW1]; exact hT.alloc _
  have hE1 : RowAt W1 E 42 [.slice va n vc] := by rw [hW1]; exact hE.alloc _
  have hown1 : W1.ownsRow base 5 1 (.slice va n vc) n xs := by rw [hW1]; exact hown.alloc _
  have hN1 : RowAt W1 N0 30 [.int .u64 op, .int .u32 og, .int .i64 os] := by rw [hW1, hN0]; exact RowAt.new W 30 _
  have hb1 : base ≤ W1.heap.size := by rw [hW1]; simp; omega
  have hNb : base ≤ N0 := by omega
  have p1 : W1.cell? ⟨T, 1, none⟩ = some (.pointer (some ⟨E, 0, none⟩)) := hT1.cell 1
  have e0 : W1.cell? ⟨E, 0, none⟩ = some (.slice va n vc) := hE1.cell 0
  have f0 := hE1.free 0
  have HT : Hid (RowAt W1 T 64 [an, .pointer (some ⟨E, 0, none⟩), nx, .slice none 0 0, mm]) := hT1
  have HE : Hid (RowAt W1 E 42 [.slice va n vc]) := hE1
  have HO : Hid (W1.ownsRow base 5 1 (.slice va n vc) n xs) := hown1
  have HN : Hid (RowAt W1 N0 30 [.int .u64 op, .int .u32 og, .int .i64 os]) := hN1
  have hTl : T < W1.heap.size := hT1.lt
  have hEl : E < W1.heap.size := hE1.lt
  have HNv : Hid ((Value.slice va n vc).ownBlock ≠ some N0) := fun h => by have := (hown.lt N0 h).2; omega
  have HOb : Hid (∀ k, (Value.slice va n vc).ownBlock = some k → base ≤ k) := fun k hk => (hown.lt k hk).1
  have HW1 : Hid (W1 = W.alloc (.cells #[.int .u64 op, .int .u32 og, .int .i64 os] 30)) := hW1
  clear hT hE hown hT1 hE1 hown1 hN1 hW1 hN0
  go_cut [] (fun wx => Hid (EvS base E E W1 (.slice va n vc) (n + 1) (xs ++ [.int .u8 108]) wx))
  case first =>
    go_region_law (refine step_append_lies _ rfl (.tmp 13) (.tmp 14) 42 rfl base 5 i0 _ 1 1 Yba.underlying42 hi hz0 hz1 hz2 rfl (by decide) _ n xs rfl (HO.out.alloc _) ⟨W1.heap.size, 0, none⟩ 1 1 [.int .u8 108] rfl rfl (news_one _ _ _) (by simp [Value.oneCell']) (by decide) (by unfold maxLen; omega) (by omega) (by simp; omega) _ rfl ?_; intro g cap w1 hown hgrow hat hlt; have z0 := ev_cells hgrow rfl HOb.out hb1 ⟨E, 0, none⟩ hEb; have z1 := z0.1.trans e0; have z2 := z0.2.trans f0; have z3 := (ev_cells hgrow rfl HOb.out hb1 ⟨T, 1, none⟩ hTb).1.trans p1; clear z0; have HR : Hid (EvS base E E W1 (.slice va n vc) (n + 1) (xs ++ [.int .u8 108]) (w1.setCell ⟨E, 0, none⟩ (.slice (some ⟨g, 0, none⟩) (n + 1) cap))) := ev_fin HE.out hEb hb1 HOb.out hgrow rfl rfl rfl rfl hown hat; clear hown hgrow hat hlt)
    all_goals
      go_wp2
      go_meet
      exact HR.out
  case rest =>
  have HX : Hid (RowAt wc T 64 [an, .pointer (some ⟨E, 0, none⟩), nx, .slice none 0 0, mm]) := by
    obtain ⟨v', _, _, hfr, _⟩ := hcut.out
    exact hfr.row HT.out hTE hTE (fun e => by have := HOb.out T e.symm; omega)
  have HY : Hid (RowAt wc N0 30 [.int .u64 op, .int .u32 og, .int .i64 os]) := by
    obtain ⟨v', _, _, hfr, _⟩ := hcut.out
    exact hfr.row HN.out (by omega) (by omega) (fun e => HNv.out e.symm)
  clear p1 e0 f0 hTl hEl HO
  have x3 : wc.cell? ⟨T, 3, none⟩ = some (.slice none 0 0) := HX.out.cell 3
  have xf := HX.out.free 3
  have y0 : wc.cell? ⟨N0, 0, none⟩ = some (.int .u64 op) := HY.out.cell 0
  have y1 : wc.cell? ⟨N0, 1, none⟩ = some (.int .u32 og) := HY.out.cell 1
  have y2 : wc.cell? ⟨N0, 2, none⟩ = some (.int .i64 os) := HY.out.cell 2
  have hTl : T < wc.heap.size := HX.out.lt
  have hNl : N0 < wc.heap.size := HY.out.lt
  obtain ⟨i1, hi', hw0, hw1, hw2⟩ := info_parts Yba.info30
  go_wp2_with fail
  go_region_law (refine step_append_lies _ rfl (.tmp 21) (.tmp 23) 60 rfl wc.heap.size 30 i1 _ 3 24 Yba.underlying60 hi' hw0 hw1 hw2 rfl (by decide) _ 0 [] rfl (World.ownsRow_nil _ _ _ _) ⟨wc.heap.size, 0, none⟩ 1 1 [.int .u64 op, .int .u32 og, .int .i64 os] rfl rfl (news_row _ #[.int .u64 op, .int .u32 og, .int .i64 os] _) (by simp [Value.oneCell']) (by decide) (by unfold maxLen; omega) (by omega) (by simp) _ rfl ?_; intro g cap w2 hown hgrow hat hlt; have z0 := ev_cells (base := wc.heap.size) hgrow rfl (fun k hk => by cases hk) (Nat.le_refl _) ⟨T, 3, none⟩ hTl; have z1 := z0.1.trans x3; have z2 := z0.2.trans xf; clear z0; have HR : Hid (ListS base E T W1 (.slice va n vc) (n + 1) (xs ++ [.int .u8 108]) (fun s => [an, .pointer (some ⟨E, 0, none⟩), nx, s, mm]) [.int .u64 op, .int .u32 og, .int .i64 os] (w2.setCell ⟨T, 3, none⟩ (.slice (some ⟨g, 0, none⟩) 1 cap))) := list_fin hgrow HX.out hTb hEb hTE hb1 hcut.out rfl rfl rfl rfl hown hat hlt; clear hown hgrow hat hlt)
  all_goals
    go_wp2
    go_end0
    refine ⟨rfl, ?_⟩
    have := HR.out
    rw [HW1.out] at this
    exact this.ofAlloc
end Go.Proofs.Ybulkebck
