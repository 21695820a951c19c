import Derived.Test.YbulkebckTip
import Derived.Laws.StructEq
namespace Go.Proofs.Ybulkebck
open Go.RowKit
set_option linter.unusedVariables false

theorem q25 : ∀ (w : World) (a : Option Addr) (n c n' c' : Nat), (binOp .eql 25 (.slice a n c) (.slice none n' c')).run Yba.prog w = .ok (.bool a.isNone) w := fun w a n c n' c' => Lib.run_eql_slice_nil w _ _ a n c n' c' Yba.underlying25
theorem q24 : ∀ (w : World) (a : Option Addr) (n c n' c' : Nat), (binOp .eql 24 (.slice a n c) (.slice none n' c')).run Yba.prog w = .ok (.bool a.isNone) w := fun w a n c n' c' => Lib.run_eql_slice_nil w _ _ a n c n' c' Yba.underlying24
theorem r25 : ∀ (w : World) (a : Option Addr) (n c n' c' : Nat), (binOp .neq 25 (.slice a n c) (.slice none n' c')).run Yba.prog w = .ok (.bool (!a.isNone)) w := fun w a n c n' c' => run_neq_slice_nil_any w _ _ a n c n' c' Yba.underlying25
theorem r24 : ∀ (w : World) (a : Option Addr) (n c n' c' : Nat), (binOp .neq 24 (.slice a n c) (.slice none n' c')).run Yba.prog w = .ok (.bool (!a.isNone)) w := fun w a n c n' c' => run_neq_slice_nil_any w _ _ a n c n' c' Yba.underlying24

theorem Yba.info32 : (Yba.prog.info? 32).map (fun i => (i.zero, i.size, i.bytes)) = some (some (.agg #[.int .u64 0, .int .u32 0, .int .i64 0, .int .u64 0]), 4, 32) := by kernel_rfl

theorem clone_nil (w : World) :
    Calls Yba.prog 6 #[.slice none 0 0] w fun e w' => e = .returned (.slice none 0 0) ∧ w = w' := by
  have q25 := q25
  go_enter Yba.func6, Yba.ntmps6
  go_wp2
  go_ret
  exact ⟨rfl, rfl⟩

theorem add0 (b j : Nat) : (⟨b, 0, none⟩ : Addr).add j = ⟨b, j, none⟩ := by
  unfold Addr.add
  split
  · rename_i h; rw [h]
  · simp

/-- What an owned slice is good for: its address, and its cells. -/
theorem owned_at {w : World} {base e size : Nat} {v : Value} {n : Nat} {xs : List Value} (h : w.ownsRow base e size v n xs) (hv : v ≠ .slice none 0 0) :
    ∃ g cap, v = .slice (some ⟨g, 0, none⟩) n cap ∧ base ≤ g ∧ g < w.heap.size ∧ n ≤ cap ∧ ∀ j u, xs[j]? = some u → w.cell? ⟨g, j, none⟩ = some u := by
  obtain ⟨hl, h2⟩ := h
  rcases h2 with ⟨h2, _⟩ | ⟨g, cap, cur, rfl, hg, hh, hnc, _, _, ht⟩
  · exact absurd h2 hv
  · refine ⟨g, cap, rfl, hg, (Array.getElem?_eq_some_iff.1 hh).1, hnc, fun j u hj => ?_⟩
    rw [cell_of_row w g j cur e (0, 0) hh]
    rw [← ht, List.getElem?_take] at hj
    split at hj
    · simpa using hj
    · cases hj

set_option maxHeartbeats 800000 in
theorem clone_some (b n c : Nat) (w : World) (hn : n ≤ 1048576) (hb : b < w.heap.size) (news : List Value) (hl : news.length = n * 4) (h1 : ∀ u ∈ news, u.oneCell' = true) (hc : ∀ j u, news[j]? = some u → w.cell? ⟨b, j, none⟩ = some u) :
    Calls Yba.prog 6 #[.slice (some ⟨b, 0, none⟩) n c] w fun e w' => ∃ g cap, e = .returned (.slice (some ⟨g, 0, none⟩) n cap) ∧ w.heap.size ≤ g ∧ g < w'.heap.size ∧ Below w.heap.size w w' ∧ ∀ j u, news[j]? = some u → w'.cell? ⟨g, j, none⟩ = some u := by
  have q25 := q25
  obtain ⟨i0, hi, hz0, hz1, hz2⟩ := info_parts Yba.info32
  have hown : (w.alloc (.cells #[] 32)).ownsRow w.heap.size 32 4 (.slice (some ⟨w.heap.size, 0, none⟩) 0 0) 0 [] := World.ownsRow_lit w #[] 0 (Nat.le_refl _) (by unfold maxLen; omega) (by simp)
  have hnews : ∀ j u, news[j]? = some u → (w.alloc (.cells #[] 32)).cell? ((⟨b, 0, none⟩ : Addr).add j) = some u := fun j u hj => by
    rw [add0 b j, (show Below w.heap.size w (w.alloc (.cells #[] 32)) from (Below.refl _ _).alloc (Nat.le_refl _) _).cell (p := ⟨b, j, none⟩) hb]; exact hc j u hj
  have H1 : Hid ((w.alloc (.cells #[] 32)).ownsRow w.heap.size 32 4 (.slice (some ⟨w.heap.size, 0, none⟩) 0 0) 0 []) := hown
  have H2 : Hid (∀ j u, news[j]? = some u → (w.alloc (.cells #[] 32)).cell? ((⟨b, 0, none⟩ : Addr).add j) = some u) := hnews
  have H3 : Hid (news.length = n * 4) := hl
  have H4 : Hid (∀ u ∈ news, u.oneCell' = true) := h1
  clear hown hnews hl h1 hc
  go_enter Yba.func6, Yba.ntmps6
  go_wp2_with (at_builtin; refine wpList_append_own _ rfl (.tmp 5) (.tmp 6) 25 rfl w.heap.size 32 i0 _ 4 32 Yba.underlying25 hi hz0 hz1 hz2 rfl (by decide) _ 0 [] rfl H1.out ⟨b, 0, none⟩ n c news rfl H3.out H2.out H4.out ?c3 ?c4 ?c5 ?_)
  case c3 => unfold maxLen; omega
  case c4 => omega
  case c5 => simp
  intro v' w1 hown' hgrow hnil
  have hv : v' ≠ .slice none 0 0 := hnil
  obtain ⟨g, cap, hv', hg, hlt, _, hcells⟩ := owned_at hown' hv
  rw [hv']
  have hbel : Below w.heap.size w w1 := ((Below.refl w.heap.size w).alloc (Nat.le_refl _) (.cells #[] 32)).grown hgrow (by simp) (fun k hk => by simp [Value.ownBlock] at hk; omega)
  have R1 : Hid (∀ j u, news[j]? = some u → w1.cell? ⟨g, j, none⟩ = some u) := hcells
  have R2 : Hid (Below w.heap.size w w1) := hbel
  clear hown' hgrow hnil hcells hbel hv'
  go_wp2
  go_ret
  exact ⟨g, cap, rfl, hg, hlt, R2.out, R1.out⟩

/-! ### slices.Equal of zones -/
theorem neq32 (w : World) (p g s n : Int) : (binOp .neq 32 (.agg #[.int .u64 p, .int .u32 g, .int .i64 s, .int .u64 n]) (.agg #[.int .u64 p, .int .u32 g, .int .i64 s, .int .u64 n])).run Yba.prog w = .ok (.bool false) w := by
  have hu : ∀ (d : Nat) (t : TypeId) (k : IntKind) (x : Int), Yba.prog.underlying t = some (.int k) → (Op.equalIn (d + 1) t (.int k x) (.int k x)).run Yba.prog w = .ok true w := fun d t k x h => by
    rw [run_equalIn_int w d t k k x x h]; simp
  have p0 : (part 28 #[Value.int .u64 p, Value.int .u32 g, Value.int .i64 s] 0).run Yba.prog w = .ok (.int .u64 p) w := by kernel_rfl
  have p1 : (part 23 #[Value.int .u64 p, Value.int .u32 g, Value.int .i64 s] 1).run Yba.prog w = .ok (.int .u32 g) w := by kernel_rfl
  have p2 : (part 3 #[Value.int .u64 p, Value.int .u32 g, Value.int .i64 s] 2).run Yba.prog w = .ok (.int .i64 s) w := by kernel_rfl
  have r0 : (part 30 #[Value.int .u64 p, Value.int .u32 g, Value.int .i64 s, Value.int .u64 n] 0).run Yba.prog w = .ok (.agg #[.int .u64 p, .int .u32 g, .int .i64 s]) w := by kernel_rfl
  have r1 : (part 28 #[Value.int .u64 p, Value.int .u32 g, Value.int .i64 s, Value.int .u64 n] 3).run Yba.prog w = .ok (.int .u64 n) w := by kernel_rfl
  have h30 : ∀ d : Nat, (Op.equalIn (d + 2) 30 (.agg #[.int .u64 p, .int .u32 g, .int .i64 s]) (.agg #[.int .u64 p, .int .u32 g, .int .i64 s])).run Yba.prog w = .ok true w := fun d => by
    unfold Op.equalIn
    simp [run_underlying Yba.underlying30, p0, p1, p2, hu _ 28 .u64 p Yba.underlying28, hu _ 23 .u32 g Yba.underlying23, hu _ 3 .i64 s Yba.underlying3]
  have h : ∀ d : Nat, (Op.equalIn (d + 3) 32 (.agg #[.int .u64 p, .int .u32 g, .int .i64 s, .int .u64 n]) (.agg #[.int .u64 p, .int .u32 g, .int .i64 s, .int .u64 n])).run Yba.prog w = .ok true w := fun d => by
    unfold Op.equalIn
    simp [run_underlying Yba.underlying32, r0, r1, h30, hu _ 28 .u64 n Yba.underlying28]
  simp only [binOp]
  simp [Op.equal, Op.maxDepth, h 9997]
theorem guard32 : Yba.prog.eqGuardType Yba.prog.depth 32 = false := by kernel_rfl

set_option maxHeartbeats 400000 in
theorem equal_nil (a b : Option Addr) (ca cb : Nat) (w : World) :
    Calls Yba.prog 9 #[.slice a 0 ca, .slice b 0 cb] w fun e w' => e = .returned (.bool true) ∧ w = w' := by
  go_enter Yba.func9, Yba.ntmps9
  go_wp2
  refine wp_loop_rounds 1 ?_
  rw [rounds_succ]
  go_wp2
  go_ret
  exact ⟨rfl, rfl⟩

set_option maxHeartbeats 800000 in
theorem equal_some (b1 b2 n c1 c2 : Nat) (z : Zs) (w : World) (hn : n ≤ 1048576) (h1 : ZRow w b1 n z) (h2 : ZRow w b2 n z) :
    Calls Yba.prog 9 #[.slice (some ⟨b1, 0, none⟩) n c1, .slice (some ⟨b2, 0, none⟩) n c2] w fun e w' => e = .returned (.bool true) ∧ ∃ q, w' = w.drewN q := by
  have HZ : Hid (ZRow w b1 n z ∧ ZRow w b2 n z) := ⟨h1, h2⟩
  clear h1 h2
  go_enter Yba.func9, Yba.ntmps9
  go_wp2
  go_loopw [13] (fun i wr => ∃ k q : Nat, k ≤ n ∧ i = .int .i64 k ∧ wr = w.drewN q) (fun i _ => n - (intOf i).toNat)
  case atStart => exact ⟨0, 0, Nat.zero_le _, rfl, rfl⟩
  case round =>
    obtain ⟨k, q, hk, rfl, rfl⟩ := hrel
    by_cases hlt : k < n
    · obtain ⟨a0, a1, a2, a3⟩ := HZ.out.1 k hlt
      obtain ⟨e0, e1, e2, e3⟩ := HZ.out.2 k hlt
      have hi : (k : Int) < (n : Int) := by omega
      have n32 := neq32
      have g32 := guard32
      go_wp2
      go_quiet (fail)
      go_wp2
      go_roundw
      case rel => exact ⟨k + 1, _, by omega, by go_num, rfl⟩
      case measure => simp [intOf]; omega
    · go_wp2
      go_ret
      exact ⟨rfl, q, rfl⟩
end Go.Proofs.Ybulkebck
