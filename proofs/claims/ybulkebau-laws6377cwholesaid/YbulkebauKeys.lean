import Derived.Test.YbulkebauClone
import Derived.LaidEqlPtr
import Derived.Lib.Builder
import Derived.Laws.IdiomStrings
import Derived.Deep.DeepCutAuto
namespace Go.Proofs.Ybulkebau
open Go.RowKit
set_option linter.unusedVariables false

theorem add_at (b o j : Nat) : (⟨b, o, none⟩ : Addr).add j = ⟨b, o + j, none⟩ := by
  unfold Addr.add
  split
  · rename_i h; rw [h]; rfl
  · rfl
theorem owns_form {w : World} {base e size : Nat} {v : Value} {n : Nat} {xs : List Value} (h : w.ownsRow base e size v n xs) : ∃ a cap, v = .slice a n cap := by
  rcases h.2 with ⟨rfl, rfl⟩ | ⟨g, cap, cur, rfl, _⟩
  · exact ⟨_, _, rfl⟩
  · exact ⟨_, _, rfl⟩
theorem owned_at {w : World} {base e size : Nat} {v : Value} {n : Nat} {xs : List Value} (h : w.ownsRow base e size v n xs) (hv : v ≠ .slice none 0 0) :
    ∃ g cap, v = .slice (some ⟨g, 0, none⟩) n cap ∧ base ≤ g ∧ g < w.heap.size ∧ n ≤ cap ∧ ∀ j u, xs[j]? = some u → w.cell? ⟨g, j, none⟩ = some u := by
  obtain ⟨hl, h2⟩ := h
  rcases h2 with ⟨h2, _⟩ | ⟨g, cap, cur, rfl, hg, hh, hnc, _, _, ht⟩
  · exact absurd h2 hv
  · refine ⟨g, cap, rfl, hg, (Array.getElem?_eq_some_iff.1 hh).1, hnc, fun j u hj => ?_⟩
    rw [cell_of_row w g j cur e (0, 0) hh]
    rw [← ht, List.getElem?_take] at hj
    split at hj
    · simpa using hj
    · cases hj

/-- A slice of one-cell elements, as it is read. -/
def Sl (w : World) (a : Option Addr) (n c : Nat) (xs : List Value) : Prop :=
  xs.length = n ∧ (a = none → n = 0 ∧ c = 0) ∧ (∀ u ∈ xs, u.oneCell' = true) ∧ ∀ j u, xs[j]? = some u → ∃ b o, a = some ⟨b, o, none⟩ ∧ b < w.heap.size ∧ w.cell? ⟨b, o + j, none⟩ = some u
theorem Sl.kept {w w' : World} {a : Option Addr} {n c : Nat} {xs : List Value} (h : Sl w a n c xs) (hb : Below w.heap.size w w') : Sl w' a n c xs :=
  ⟨h.1, h.2.1, h.2.2.1, fun j u hj => by
    obtain ⟨b, o, h1, h2, h3⟩ := h.2.2.2 j u hj
    exact ⟨b, o, h1, Nat.lt_of_lt_of_le h2 hb.size, (hb.cell (p := ⟨b, o + j, none⟩) h2).trans h3⟩⟩
theorem Sl.add {w : World} {x : Addr} {n c : Nat} {xs : List Value} (h : Sl w (some x) n c xs) : ∀ j u, xs[j]? = some u → w.cell? (x.add j) = some u := fun j u hj => by
  obtain ⟨b, o, h1, h2, h3⟩ := h.2.2.2 j u hj
  injection h1 with h1
  rw [h1, add_at]
  exact h3
theorem Sl.news {w : World} {x : Addr} {n c : Nat} {xs : List Value} (h : Sl w (some x) n c xs) (o : Obj) : ∀ j u, xs[j]? = some u → (w.alloc o).cell? (x.add j) = some u :=
  (h.kept ((Below.refl _ _).alloc (Nat.le_refl _) o)).add
theorem Sl.blk {w : World} {x : Addr} {n c : Nat} {xs : List Value} (h : Sl w (some x) n c xs) : ∀ (j : Nat) (u : Value), xs[j]? = some u → x.block < w.heap.size := fun j u hj => by
  obtain ⟨b, o, h1, h2, h3⟩ := h.2.2.2 j u hj
  injection h1 with h1
  rw [h1]
  exact h2
theorem Sl.ofOwn {w : World} {base e g cap n : Nat} {xs : List Value} (h : w.ownsRow base e 1 (.slice (some ⟨g, 0, none⟩) n cap) n xs) (h1 : ∀ u ∈ xs, u.oneCell' = true) : Sl w (some ⟨g, 0, none⟩) n cap xs := by
  obtain ⟨g', cap', hv', _, hlt, _, hc⟩ := owned_at h (by intro e; cases e)
  injection hv' with e1 _ _
  injection e1 with e1
  injection e1 with e1
  subst e1
  exact ⟨by have := h.1; omega, (fun e => by cases e), h1, fun j u hj => ⟨g, 0, rfl, hlt, by rw [Nat.zero_add]; exact hc j u hj⟩⟩

theorem q54 : ∀ (w : World) (a : Option Addr) (n c n' c' : Nat), (binOp .eql 54 (.slice a n c) (.slice none n' c')).run Yba.prog w = .ok (.bool a.isNone) w := fun w a n c n' c' => Lib.run_eql_slice_nil w _ _ a n c n' c' Yba.underlying54
theorem Yba.info9 : (Yba.prog.info? 9).map (fun i => (i.zero, i.size, i.bytes)) = some (some (.string ⟨#[]⟩), 1, 16) := by kernel_rfl

/-- What slices.Clone hands back. -/
def Cl (w : World) (n : Nat) (xs : List Value) (a' : Option Addr) (c' : Nat) (w' : World) : Prop := Below w.heap.size w w' ∧ Sl w' a' n c' xs ∧ ∀ x, a' = some x → w.heap.size ≤ x.block

set_option maxHeartbeats 400000 in
theorem clone13 (a : Option Addr) (n c : Nat) (xs : List Value) (w : World) (hs : Sl w a n c xs) (hn : n ≤ 140737488351232) :
    Calls Yba.prog 13 #[.slice a n c] w fun e w' => ∃ a' c', e = .returned (.slice a' n c') ∧ Cl w n xs a' c' w' := by
  have q22 := q22
  obtain ⟨i0, hi, hz0, hz1, hz2⟩ := info_parts Yba.info5
  have HS : Hid (Sl w a n c xs) := hs
  cases a with
  | none =>
    obtain ⟨rfl, rfl⟩ := hs.2.1 rfl
    clear hs
    go_enter Yba.func13, Yba.ntmps13
    go_wp2
    go_ret
    exact ⟨none, 0, rfl, Below.refl _ _, HS.out, fun x hx => by cases hx⟩
  | some x =>
    have hnews : ∀ j u, xs[j]? = some u → (w.alloc (.cells #[] 5)).cell? (x.add j) = some u := hs.news (.cells #[] 5)
    have H2 : Hid (∀ j u, xs[j]? = some u → (w.alloc (.cells #[] 5)).cell? (x.add j) = some u) := hnews
    have H1 : Hid ((w.alloc (.cells #[] 5)).ownsRow w.heap.size 5 1 (.slice (some ⟨w.heap.size, 0, none⟩) 0 0) 0 []) := World.ownsRow_lit w #[] 0 (Nat.le_refl _) (by unfold maxLen; omega) (by simp)
    have H3 : Hid (xs.length = n * 1) := show xs.length = n * 1 by rw [hs.1]; omega
    clear hs hnews
    go_enter Yba.func13, Yba.ntmps13
    go_wp2_with (at_builtin; refine wpList_append_own _ rfl (.tmp 5) (.tmp 6) 22 rfl w.heap.size 5 i0 _ 1 1 Yba.underlying22 hi hz0 hz1 hz2 rfl (by decide) _ 0 [] rfl H1.out x n c xs rfl H3.out H2.out HS.out.2.2.1 ?c3 ?c4 ?c5 ?_)
    case c3 => unfold maxLen; omega
    case c4 => omega
    case c5 => simp
    intro v' w1 hown' hgrow hnil
    obtain ⟨g, cap, hv', hg, hlt, _, hcells⟩ := owned_at hown' hnil
    subst hv'
    have R : Hid (Cl w n xs (some ⟨g, 0, none⟩) cap w1) := ⟨((Below.refl w.heap.size w).alloc (Nat.le_refl _) (.cells #[] 5)).grown hgrow (by simp) (fun k hk => by simp [Value.ownBlock] at hk; omega), Sl.ofOwn (by simpa using hown') HS.out.2.2.1, fun x hx => by injection hx with hx; rw [← hx]; exact hg⟩
    clear hown' hgrow hnil hcells
    go_wp2
    go_ret
    exact ⟨_, _, rfl, R.out⟩
set_option maxHeartbeats 400000 in
theorem clone12 (a : Option Addr) (n c : Nat) (xs : List Value) (w : World) (hs : Sl w a n c xs) (hn : n ≤ 1048576) :
    Calls Yba.prog 12 #[.slice a n c] w fun e w' => ∃ a' c', e = .returned (.slice a' n c') ∧ Cl w n xs a' c' w' := by
  have q54 := q54
  obtain ⟨i0, hi, hz0, hz1, hz2⟩ := info_parts Yba.info9
  have HS : Hid (Sl w a n c xs) := hs
  cases a with
  | none =>
    obtain ⟨rfl, rfl⟩ := hs.2.1 rfl
    clear hs
    go_enter Yba.func12, Yba.ntmps12
    go_wp2
    go_ret
    exact ⟨none, 0, rfl, Below.refl _ _, HS.out, fun x hx => by cases hx⟩
  | some x =>
    have hnews : ∀ j u, xs[j]? = some u → (w.alloc (.cells #[] 9)).cell? (x.add j) = some u := hs.news (.cells #[] 9)
    have H2 : Hid (∀ j u, xs[j]? = some u → (w.alloc (.cells #[] 9)).cell? (x.add j) = some u) := hnews
    have H1 : Hid ((w.alloc (.cells #[] 9)).ownsRow w.heap.size 9 1 (.slice (some ⟨w.heap.size, 0, none⟩) 0 0) 0 []) := World.ownsRow_lit w #[] 0 (Nat.le_refl _) (by unfold maxLen; omega) (by simp)
    have H3 : Hid (xs.length = n * 1) := show xs.length = n * 1 by rw [hs.1]; omega
    clear hs hnews
    go_enter Yba.func12, Yba.ntmps12
    go_wp2_with (at_builtin; refine wpList_append_own _ rfl (.tmp 5) (.tmp 6) 54 rfl w.heap.size 9 i0 _ 1 16 Yba.underlying54 hi hz0 hz1 hz2 rfl (by decide) _ 0 [] rfl H1.out x n c xs rfl H3.out H2.out HS.out.2.2.1 ?c3 ?c4 ?c5 ?_)
    case c3 => unfold maxLen; omega
    case c4 => omega
    case c5 => simp
    intro v' w1 hown' hgrow hnil
    obtain ⟨g, cap, hv', hg, hlt, _, hcells⟩ := owned_at hown' hnil
    subst hv'
    have R : Hid (Cl w n xs (some ⟨g, 0, none⟩) cap w1) := ⟨((Below.refl w.heap.size w).alloc (Nat.le_refl _) (.cells #[] 9)).grown hgrow (by simp) (fun k hk => by simp [Value.ownBlock] at hk; omega), Sl.ofOwn (by simpa using hown') HS.out.2.2.1, fun x hx => by injection hx with hx; rw [← hx]; exact hg⟩
    clear hown' hgrow hnil hcells
    go_wp2
    go_ret
    exact ⟨_, _, rfl, R.out⟩

theorem conv_sl {w : World} {a : Option Addr} {c : Nat} {l : List UInt8} (h : Sl w a l.length c (l.map (fun b => Value.int .u8 (b.toNat : Int)))) : (convert 22 9 (.slice a l.length c)).run Yba.prog w = .ok (.string ⟨l.toArray⟩) w := by
  cases a with
  | some x => exact run_convert_bytes_back w 22 9 5 x c l Yba.underlying22 Yba.underlying5 Yba.underlying9 (fun j hj => h.add j _ (by simp [hj]))
  | none =>
    obtain ⟨h0, rfl⟩ := h.2.1 rfl
    obtain rfl : l = [] := List.eq_nil_of_length_eq_zero h0
    kernel_rfl

set_option maxHeartbeats 400000 in
theorem beq18 (a a' : Option Addr) (n c c' : Nat) (l : List UInt8) (w : World) (hl : n = l.length) (h : Sl w a n c (l.map (fun b => Value.int .u8 (b.toNat : Int)))) (h' : Sl w a' n c' (l.map (fun b => Value.int .u8 (b.toNat : Int)))) :
    Calls Yba.prog 18 #[.slice a n c, .slice a' n c'] w fun e w' => e = .returned (.bool true) ∧ w' = w := by
  subst hl
  have c1 := conv_sl h
  have c2 := conv_sl h'
  clear h h'
  go_enter Yba.func18, Yba.ntmps18
  go_wp2
  go_ret
  exact ⟨by simp, rfl⟩

theorem q28n (w : World) : (binOp .eql 28 (.pointer none) (.pointer none)).run Yba.prog w = .ok (.bool true) w := by kernel_rfl
theorem Yba.info44 : (Yba.prog.info? 44).map (fun i => decide (i.size = 0)) = some false := by kernel_rfl
theorem q28 (p : Option Addr) (w : World) : (binOp .eql 28 (.pointer p) (.pointer p)).run Yba.prog w = .ok (.bool true) w := by
  cases p with
  | none => exact q28n w
  | some a =>
    obtain ⟨j, hte, hsz⟩ := Option.map_eq_some_iff.1 Yba.info44
    exact run_eql_ptr_same w a Yba.underlying28 hte

set_option maxRecDepth 100000 in
set_option maxHeartbeats 1600000 in
theorem zz15 (a a' p : Option Addr) (n c c' : Nat) (l : List UInt8) (s : ByteArray) (w : World) (hl : n = l.length) (h : Sl w a n c (l.map (fun b => Value.int .u8 (b.toNat : Int)))) (h' : Sl w a' n c' (l.map (fun b => Value.int .u8 (b.toNat : Int)))) :
    Calls Yba.prog 15 #[.agg #[.slice a n c, .pointer p, .string s], .slice a' n c', .pointer p, .string s] w fun e w' => e = .returned (.bool true) ∧ w' = w.alloc (.cells #[.slice a n c, .pointer p, .string s] 61) := by
  have H : Hid (∀ o, Sl (w.alloc o) a n c (l.map (fun b => Value.int .u8 (b.toNat : Int))) ∧ Sl (w.alloc o) a' n c' (l.map (fun b => Value.int .u8 (b.toNat : Int)))) := fun o => ⟨h.kept ((Below.refl _ _).alloc (Nat.le_refl _) _), h'.kept ((Below.refl _ _).alloc (Nat.le_refl _) _)⟩
  have q28 := q28
  have HL : Hid (n = l.length) := hl
  clear h h' hl
  go_enter Yba.func15, Yba.ntmps15
  go_wp2_with (go_at_call 18; refine (beq18 _ _ _ _ _ l _ HL.out (H.out _).1 (H.out _).2).mono ?_; rintro e w1 ⟨rfl, rfl⟩)
  go_ret
  exact ⟨by simp, rfl⟩

set_option maxHeartbeats 800000 in
theorem equal16 (a a' : Option Addr) (n c c' : Nat) (ss : Nat → ByteArray) (w : World) (hn : n ≤ 1048576) (h : Sl w a n c ((List.range n).map (fun i => .string (ss i)))) (h' : Sl w a' n c' ((List.range n).map (fun i => .string (ss i)))) :
    Calls Yba.prog 16 #[.slice a n c, .slice a' n c'] w fun e w' => e = .returned (.bool true) ∧ ∃ q, w' = w.drewN q := by
  have HZ : Hid (Sl w a n c ((List.range n).map (fun i => .string (ss i))) ∧ Sl w a' n c' ((List.range n).map (fun i => .string (ss i)))) := ⟨h, h'⟩
  clear h h'
  go_enter Yba.func16, Yba.ntmps16
  go_wp2
  go_loopw [13, 5] (fun i _ wr => ∃ k q : Nat, k ≤ n ∧ i = .int .i64 k ∧ wr = w.drewN q) (fun i _ _ => n - (intOf i).toNat)
  case atStart => exact ⟨0, 0, Nat.zero_le _, rfl, rfl⟩
  case round =>
    obtain ⟨k, q, hk, rfl, rfl⟩ := hrel
    by_cases hlt : k < n
    · obtain ⟨b, o, rfl, _, y0⟩ := HZ.out.1.2.2.2 k (.string (ss k)) (by simp [hlt])
      obtain ⟨b', o', rfl, _, y1⟩ := HZ.out.2.2.2.2 k (.string (ss k)) (by simp [hlt])
      have hi : (k : Int) < (n : Int) := by omega
      go_wp2
      go_quiet (fail)
      go_wp2
      go_roundw
      case rel => exact ⟨k + 1, _, by omega, by go_num, rfl⟩
      case measure => simp [intOf]; omega
    · go_wp2
      go_ret
      exact ⟨rfl, q, rfl⟩
end Go.Proofs.Ybulkebau
