import Derived.Test.YbulkebckPred
import Derived.Deep.AppendLies
import Derived.Deep.RegionLaw
import Derived.Deep.RegionHeldLaw
import Derived.Deep.DeepCutAuto
namespace Go.Proofs.Ybulkebck
open Go.RowKit
set_option linter.unusedVariables false

theorem Yba.info5 : (Yba.prog.info? 5).map (fun i => (i.zero, i.size, i.bytes)) = some (some (.int .u8 0), 1, 1) := by kernel_rfl

/-- Nothing has turned but E, T and the row r, of what was there. -/
structure Fr (E T : Nat) (r : Option Nat) (W X : World) : Prop where
  os : X.os = W.os
  tape : X.tape = W.tape
  output : X.output = W.output
  size : W.heap.size ≤ X.heap.size
  block : ∀ k, k < W.heap.size → k ≠ E → k ≠ T → some k ≠ r → X.heap[k]? = W.heap[k]?

theorem Fr.row {E T : Nat} {r : Option Nat} {W X : World} (h : Fr E T r W X) {g : Nat} {e : TypeId} {cs : List Value} (hr : RowAt W g e cs) (h1 : g ≠ E) (h2 : g ≠ T) (h3 : some g ≠ r) : RowAt X g e cs :=
  (h.block g hr.lt h1 h2 h3).trans hr

/-- Behind one event: the log at E holds v', which owns xs'. -/
def EvS (base E T : Nat) (W : World) (v : Value) (n : Nat) (xs : List Value) (X : World) : Prop :=
  ∃ v', RowAt X E 42 [v'] ∧ X.ownsRow base 5 1 v' n xs ∧ Fr E T v.ownBlock W X ∧ ∀ k, v'.ownBlock = some k → v.ownBlock = some k ∨ W.heap.size ≤ k

theorem ev_fin {base E : Nat} {W Wa w1 : World} {v : Value} {n : Nat} {xs : List Value} {c : Value} {g cap : Nat} {o : Obj}
    (hE : RowAt W E 42 [v]) (hEb : E < base) (hb : base ≤ W.heap.size) (hv : ∀ k, v.ownBlock = some k → base ≤ k)
    (hgrow : Wa.grownBy w1 v.ownBlock) (h1 : Wa.os = W.os) (h2 : Wa.tape = W.tape) (h3 : Wa.output = W.output) (h4 : Wa.heap = W.heap.push o)
    (hown : w1.ownsRow base 5 1 (.slice (some ⟨g, 0, none⟩) (n + 1) cap) (n + 1) (xs ++ [c])) (hat : v.ownBlock = some g ∨ g = Wa.heap.size) :
    EvS base E E W v (n + 1) (xs ++ [c]) (w1.setCell ⟨E, 0, none⟩ (.slice (some ⟨g, 0, none⟩) (n + 1) cap)) := by
  have hs : Wa.heap.size = W.heap.size + 1 := by rw [h4]; simp
  have hbl : ∀ k, k < W.heap.size → some k ≠ v.ownBlock → w1.heap[k]? = W.heap[k]? := fun k hk hne => by
    rw [hgrow.block k (by omega) hne, h4, Array.getElem?_push, if_neg (by omega)]
  have hEl := hE.lt
  have hEv : some E ≠ v.ownBlock := fun e => by have := hv E e.symm; omega
  refine ⟨.slice (some ⟨g, 0, none⟩) (n + 1) cap, ?_, ?_, ⟨hgrow.os.trans h1, hgrow.tape.trans h2, hgrow.output.trans h3, ?_, fun k hk hE' _ hr => ?_⟩, fun k hk => ?_⟩
  · have : RowAt w1 E 42 [v] := (hbl E hEl hEv).trans hE
    exact this.set 0 _
  · have hgE : E ≠ g := by
      rcases hat with h | h
      · exact fun e => hEv (by rw [h, e])
      · omega
    obtain ⟨hl, h0 | ⟨g', cap', cur, he, hbg, hh, hr⟩⟩ := hown
    · cases h0.1
    · obtain ⟨rfl, rfl⟩ : g = g' ∧ cap = cap' := by injection he with e1 _ e2; injection e1 with e1; injection e1 with e1; exact ⟨e1, e2⟩
      refine ⟨hl, .inr ⟨g, cap, cur, rfl, hbg, ?_, hr⟩⟩
      rw [Below.heap_setCell _ _ _ _ (show g ≠ E from fun e => hgE e.symm)]
      exact hh
  · have := hgrow.size
    simp [World.setCell]
    omega
  · rw [Below.heap_setCell _ _ _ _ hE']
    exact hbl k hk hr
  · have hkg : k = g := by simpa [Value.ownBlock] using hk.symm
    subst hkg
    rcases hat with h | h
    · exact .inl h
    · exact .inr (by omega)

theorem ev_cells {base : Nat} {W Wa w1 : World} {r : Option Nat} {o : Obj} (hgrow : Wa.grownBy w1 r) (h4 : Wa.heap = W.heap.push o) (hv : ∀ k, r = some k → base ≤ k) (hb : base ≤ W.heap.size) (p : Addr) (hp : p.block < base) :
    w1.cell? p = W.cell? p ∧ w1.frozen? p = W.frozen? p := by
  have h : w1.heap[p.block]? = W.heap[p.block]? := by
    rw [hgrow.block p.block (by rw [h4]; simp; omega) (fun e => by have := hv _ e.symm; omega), h4, Array.getElem?_push, if_neg (by omega)]
  exact ⟨World.cell?_of_block h, World.frozen?_of_block h⟩

set_option maxRecDepth 100000 in
set_option maxHeartbeats 800000 in
theorem member_any (T E base n : Nat) (v mm ln nx an : Value) (xs : List Value) (W : World) (hn : n ≤ 100) (hT : RowAt W T 64 [an, .pointer (some ⟨E, 0, none⟩), nx, ln, mm]) (hE : RowAt W E 42 [v])
    (hown : W.ownsRow base 5 1 v n xs) (hEb : E < base) (hTb : T < base) (hb : base ≤ W.heap.size) (hTE : T ≠ E) (hv : ∃ a c, v = .slice a n c) :
    Calls Yba.prog 59 #[.pointer (some ⟨T, 0, none⟩)] W fun e w' => e = .returned mm ∧ EvS base E E W v (n + 1) (xs ++ [.int .u8 109]) w' := by
  obtain ⟨i0, hi, hz0, hz1, hz2⟩ := info_parts Yba.info5
  obtain ⟨va, vc, rfl⟩ := hv
  have p1 : W.cell? ⟨T, 1, none⟩ = some (.pointer (some ⟨E, 0, none⟩)) := hT.cell 1
  have p4 : W.cell? ⟨T, 4, none⟩ = some mm := hT.cell 4
  have e0 : W.cell? ⟨E, 0, none⟩ = some (.slice va n vc) := hE.cell 0
  have f0 := hE.free 0
  have HT : Hid (RowAt W T 64 [an, .pointer (some ⟨E, 0, none⟩), nx, ln, mm]) := hT
  have HE : Hid (RowAt W E 42 [.slice va n vc]) := hE
  have HO : Hid (W.ownsRow base 5 1 (.slice va n vc) n xs) := hown
  have hTl : T < W.heap.size := hT.lt
  have hEl : E < W.heap.size := hE.lt
  have HOb : Hid (∀ k, (Value.slice va n vc).ownBlock = some k → base ≤ k) := fun k hk => (hown.lt k hk).1
  clear hT hE hown
  go_enter Yba.func59, Yba.ntmps59
  go_wp2
  go_region_law (refine step_append_lies _ rfl (.tmp 12) (.tmp 13) 42 rfl base 5 i0 _ 1 1 Yba.underlying42 hi hz0 hz1 hz2 rfl (by decide) _ n xs rfl (HO.out.alloc _) ⟨W.heap.size, 0, none⟩ 1 1 [.int .u8 109] rfl rfl (news_one _ _ _) (by simp [Value.oneCell']) (by decide) (by unfold maxLen; omega) (by omega) (by simp; omega) _ rfl ?_; intro g cap w1 hown hgrow hat hlt; have z0 := ev_cells hgrow rfl HOb.out hb ⟨E, 0, none⟩ hEb; have z1 := z0.1.trans e0; have z2 := z0.2.trans f0; have z3 := (ev_cells hgrow rfl HOb.out hb ⟨T, 1, none⟩ hTb).1.trans p1; have z4 := (ev_cells hgrow rfl HOb.out hb ⟨T, 4, none⟩ hTb).1.trans p4; clear z0; have HR : Hid (EvS base E E W (.slice va n vc) (n + 1) (xs ++ [.int .u8 109]) (w1.setCell ⟨E, 0, none⟩ (.slice (some ⟨g, 0, none⟩) (n + 1) cap))) := ev_fin HE.out hEb hb HOb.out hgrow rfl rfl rfl rfl hown hat; clear hown hgrow hat hlt)
  all_goals
    go_wp2
    go_ret
    exact ⟨rfl, HR.out⟩
set_option maxRecDepth 100000 in
set_option maxHeartbeats 800000 in
theorem ingroup_any (T E base n : Nat) (v mm ww : Value) (xs : List Value) (W : World) (hn : n ≤ 100) (hT : RowAt W T 69 [.pointer (some ⟨E, 0, none⟩), mm, ww]) (hE : RowAt W E 42 [v])
    (hown : W.ownsRow base 5 1 v n xs) (hEb : E < base) (hTb : T < base) (hb : base ≤ W.heap.size) (hTE : T ≠ E) (hv : ∃ a c, v = .slice a n c) :
    Calls Yba.prog 64 #[.pointer (some ⟨T, 0, none⟩)] W fun e w' => e = .returned mm ∧ EvS base E E W v (n + 1) (xs ++ [.int .u8 103]) w' := by
  obtain ⟨i0, hi, hz0, hz1, hz2⟩ := info_parts Yba.info5
  obtain ⟨va, vc, rfl⟩ := hv
  have p1 : W.cell? ⟨T, 0, none⟩ = some (.pointer (some ⟨E, 0, none⟩)) := hT.cell 0
  have p4 : W.cell? ⟨T, 1, none⟩ = some mm := hT.cell 1
  have e0 : W.cell? ⟨E, 0, none⟩ = some (.slice va n vc) := hE.cell 0
  have f0 := hE.free 0
  have HT : Hid (RowAt W T 69 [.pointer (some ⟨E, 0, none⟩), mm, ww]) := hT
  have HE : Hid (RowAt W E 42 [.slice va n vc]) := hE
  have HO : Hid (W.ownsRow base 5 1 (.slice va n vc) n xs) := hown
  have hTl : T < W.heap.size := hT.lt
  have hEl : E < W.heap.size := hE.lt
  have HOb : Hid (∀ k, (Value.slice va n vc).ownBlock = some k → base ≤ k) := fun k hk => (hown.lt k hk).1
  clear hT hE hown
  go_enter Yba.func64, Yba.ntmps64
  go_wp2
  go_region_law (refine step_append_lies _ rfl (.tmp 12) (.tmp 13) 42 rfl base 5 i0 _ 1 1 Yba.underlying42 hi hz0 hz1 hz2 rfl (by decide) _ n xs rfl (HO.out.alloc _) ⟨W.heap.size, 0, none⟩ 1 1 [.int .u8 103] rfl rfl (news_one _ _ _) (by simp [Value.oneCell']) (by decide) (by unfold maxLen; omega) (by omega) (by simp; omega) _ rfl ?_; intro g cap w1 hown hgrow hat hlt; have z0 := ev_cells hgrow rfl HOb.out hb ⟨E, 0, none⟩ hEb; have z1 := z0.1.trans e0; have z2 := z0.2.trans f0; have z3 := (ev_cells hgrow rfl HOb.out hb ⟨T, 0, none⟩ hTb).1.trans p1; have z4 := (ev_cells hgrow rfl HOb.out hb ⟨T, 1, none⟩ hTb).1.trans p4; clear z0; have HR : Hid (EvS base E E W (.slice va n vc) (n + 1) (xs ++ [.int .u8 103]) (w1.setCell ⟨E, 0, none⟩ (.slice (some ⟨g, 0, none⟩) (n + 1) cap))) := ev_fin HE.out hEb hb HOb.out hgrow rfl rfl rfl rfl hown hat; clear hown hgrow hat hlt)
  all_goals
    go_wp2
    go_ret
    exact ⟨rfl, HR.out⟩
theorem owns_heap {a b : World} (h : a.heap = b.heap) {base e size : Nat} {v : Value} {n : Nat} {xs : List Value} (ho : a.ownsRow base e size v n xs) : b.ownsRow base e size v n xs := by
  unfold World.ownsRow at ho ⊢
  rw [← h]
  exact ho
theorem owns_set {w : World} {base e size : Nat} {v : Value} {n : Nat} {xs : List Value} (h : w.ownsRow base e size v n xs) {p : Addr} (hne : v.ownBlock ≠ some p.block) (u : Value) : (w.setCell p u).ownsRow base e size v n xs := by
  obtain ⟨hl, h0 | ⟨g, cap, cur, he, hbg, hh, hr⟩⟩ := h
  · exact ⟨hl, .inl h0⟩
  · refine ⟨hl, .inr ⟨g, cap, cur, he, hbg, ?_, hr⟩⟩
    rw [Below.heap_setCell _ _ _ _ (show g ≠ p.block from fun e => hne (by rw [he, ← e]; rfl))]
    exact hh

/-- Behind an event and an entry into one of T's lists. -/
def ListS (base E T : Nat) (W : World) (v : Value) (n : Nat) (xs : List Value) (cs : Value → List Value) (news : List Value) (X : World) : Prop :=
  ∃ v' g cap, RowAt X E 42 [v'] ∧ X.ownsRow base 5 1 v' n xs ∧ Fr E T v.ownBlock W X ∧ (∀ k, v'.ownBlock = some k → v.ownBlock = some k ∨ W.heap.size ≤ k) ∧
    RowAt X T 64 (cs (.slice (some ⟨g, 0, none⟩) 1 cap)) ∧ (∀ j u, news[j]? = some u → X.cell? ⟨g, j, none⟩ = some u) ∧ W.heap.size ≤ g ∧ g < X.heap.size ∧ v'.ownBlock ≠ some g

theorem list_fin {base b2 E T e size g cap f : Nat} {W X Wa w2 : World} {v : Value} {n : Nat} {xs cs news : List Value} {o : Obj}
    (hgrow : Wa.grownBy w2 none) (hT : RowAt X T 64 cs) (hTb : T < base) (hEb : E < base) (hTE : T ≠ E) (hbW : base ≤ W.heap.size) (hev : EvS base E E W v n xs X)
    (h1 : Wa.os = X.os) (h2 : Wa.tape = X.tape) (h3 : Wa.output = X.output) (h4 : Wa.heap = X.heap.push o)
    (hown : w2.ownsRow b2 e size (.slice (some ⟨g, 0, none⟩) 1 cap) 1 news) (hat : (Value.slice none 0 0).ownBlock = some g ∨ g = Wa.heap.size) (hlt : g < w2.heap.size) :
    ListS base E T W v n xs (fun s => cs.set f s) news (w2.setCell ⟨T, f, none⟩ (.slice (some ⟨g, 0, none⟩) 1 cap)) := by
  obtain ⟨v', hE, ho, hfr, hob⟩ := hev
  have hg : g = Wa.heap.size := hat.resolve_left (by intro h; cases h)
  have hs : Wa.heap.size = X.heap.size + 1 := by rw [h4]; simp
  have hXW := hfr.size
  have hbl : ∀ k, k < X.heap.size → w2.heap[k]? = X.heap[k]? := fun k hk => by
    rw [hgrow.block k (by omega) (by simp), h4, Array.getElem?_push, if_neg (by omega)]
  have hov := ho.lt
  refine ⟨v', g, cap, ?_, ?_, ⟨(hgrow.os.trans h1).trans hfr.os, (hgrow.tape.trans h2).trans hfr.tape, (hgrow.output.trans h3).trans hfr.output, ?_, fun k hk hE' hT' hr => ?_⟩, hob, ?_, fun j u hj => ?_, by omega, by simpa [World.setCell] using hlt, fun h => by have := (hov g h).2; omega⟩
  · exact RowAt.other ((hbl E hE.lt).trans hE) (fun e => hTE e.symm) _
  · refine owns_set ?_ (fun h => by have := (hov T h).1; omega) _
    have : Wa.ownsRow base 5 1 v' n xs := owns_heap (show (X.alloc o).heap = Wa.heap from h4.symm) (ho.alloc o)
    refine this.kept hgrow ?_
    cases v'.ownBlock with
    | none => exact .inl rfl
    | some k => exact .inr (by simp)
  · have := hgrow.size
    simp [World.setCell]
    omega
  · rw [Below.heap_setCell _ _ _ _ hT', hbl k (by omega)]
    exact hfr.block k hk hE' hE' hr
  · exact RowAt.set ((hbl T hT.lt).trans hT) f _
  · obtain ⟨g', cap', hv', _, _, _, hc⟩ := owned_at hown (by intro e; cases e)
    obtain rfl : g = g' := by injection hv' with e1; injection e1 with e1; injection e1
    have hgT : g ≠ T := by have := hT.lt; omega
    rw [World.cell?_of_block (w := w2) (Below.heap_setCell w2 ⟨T, f, none⟩ _ g hgT)]
    exact hc j u hj

theorem Yba.info28 : (Yba.prog.info? 28).map (fun i => (i.zero, i.size, i.bytes)) = some (some (.int .u64 0), 1, 8) := by kernel_rfl

set_option maxRecDepth 100000 in
set_option maxHeartbeats 800000 in
theorem next_any (T E base n : Nat) (v mm ln an : Value) (key : Int) (xs : List Value) (W : World) (hn : n ≤ 100) (hT : RowAt W T 64 [an, .pointer (some ⟨E, 0, none⟩), .slice none 0 0, ln, mm]) (hE : RowAt W E 42 [v])
    (hown : W.ownsRow base 5 1 v n xs) (hEb : E < base) (hTb : T < base) (hb : base ≤ W.heap.size) (hTE : T ≠ E) (hv : ∃ a c, v = .slice a n c) :
    Calls Yba.prog 60 #[.pointer (some ⟨T, 0, none⟩), .int .u64 key] W fun e w' => e = .returned an ∧ ListS base E T W v (n + 1) (xs ++ [.int .u8 110]) (fun s => [an, .pointer (some ⟨E, 0, none⟩), s, ln, mm]) [.int .u64 key] w' := by
  obtain ⟨i0, hi, hz0, hz1, hz2⟩ := info_parts Yba.info5
  obtain ⟨va, vc, rfl⟩ := hv
  have p1 : W.cell? ⟨T, 1, none⟩ = some (.pointer (some ⟨E, 0, none⟩)) := hT.cell 1
  have e0 : W.cell? ⟨E, 0, none⟩ = some (.slice va n vc) := hE.cell 0
  have f0 := hE.free 0
  have HT : Hid (RowAt W T 64 [an, .pointer (some ⟨E, 0, none⟩), .slice none 0 0, ln, mm]) := hT
  have HE : Hid (RowAt W E 42 [.slice va n vc]) := hE
  have HO : Hid (W.ownsRow base 5 1 (.slice va n vc) n xs) := hown
  have hTl : T < W.heap.size := hT.lt
  have hEl : E < W.heap.size := hE.lt
  have HOb : Hid (∀ k, (Value.slice va n vc).ownBlock = some k → base ≤ k) := fun k hk => (hown.lt k hk).1
  clear hT hE hown
  go_enter Yba.func60, Yba.ntmps60
  go_upto_region 1 with fail
  go_cut [] (fun wx => Hid (EvS base E E W (.slice va n vc) (n + 1) (xs ++ [.int .u8 110]) wx))
  case first =>
    go_region_law (refine step_append_lies _ rfl (.tmp 14) (.tmp 15) 42 rfl base 5 i0 _ 1 1 Yba.underlying42 hi hz0 hz1 hz2 rfl (by decide) _ n xs rfl (HO.out.alloc _) ⟨W.heap.size, 0, none⟩ 1 1 [.int .u8 110] rfl rfl (news_one _ _ _) (by simp [Value.oneCell']) (by decide) (by unfold maxLen; omega) (by omega) (by simp; omega) _ rfl ?_; intro g cap w1 hown hgrow hat hlt; have z0 := ev_cells hgrow rfl HOb.out hb ⟨E, 0, none⟩ hEb; have z1 := z0.1.trans e0; have z2 := z0.2.trans f0; have z3 := (ev_cells hgrow rfl HOb.out hb ⟨T, 1, none⟩ hTb).1.trans p1; clear z0; have HR : Hid (EvS base E E W (.slice va n vc) (n + 1) (xs ++ [.int .u8 110]) (w1.setCell ⟨E, 0, none⟩ (.slice (some ⟨g, 0, none⟩) (n + 1) cap))) := ev_fin HE.out hEb hb HOb.out hgrow rfl rfl rfl rfl hown hat; clear hown hgrow hat hlt)
    all_goals
      go_wp2
      go_meet
      exact HR.out
  case rest =>
  have HX : Hid (RowAt wc T 64 [an, .pointer (some ⟨E, 0, none⟩), .slice none 0 0, ln, mm]) := by
    obtain ⟨v', _, _, hfr, _⟩ := hcut.out
    exact hfr.row HT.out hTE hTE (fun e => by have := HOb.out T e.symm; omega)
  clear p1 e0 f0 hTl hEl HO
  have x0 : wc.cell? ⟨T, 0, none⟩ = some an := HX.out.cell 0
  have x2 : wc.cell? ⟨T, 2, none⟩ = some (.slice none 0 0) := HX.out.cell 2
  have xf := HX.out.free 2
  have hTl : T < wc.heap.size := HX.out.lt
  obtain ⟨i1, hi', hy0, hy1, hy2⟩ := info_parts Yba.info28
  go_wp2_with (at_builtin; refine wpList_append_lies _ rfl (.tmp 22) (.tmp 24) 59 rfl wc.heap.size 28 i1 _ 1 8 Yba.underlying59 hi' hy0 hy1 hy2 rfl (by decide) _ 0 [] rfl (World.ownsRow_nil _ _ _ _) ⟨wc.heap.size, 0, none⟩ 1 1 [.int .u64 key] rfl rfl (news_one _ _ _) (by simp [Value.oneCell']) (by decide) (by unfold maxLen; omega) (by omega) (by simp) _ rfl ?_; intro g cap w2 hown hgrow hat hlt; have z0 := ev_cells (base := wc.heap.size) hgrow rfl (fun k hk => by cases hk) (Nat.le_refl _) ⟨T, 2, none⟩ hTl; have z1 := z0.1.trans x2; have z2 := z0.2.trans xf; have z3 := (ev_cells (base := wc.heap.size) hgrow rfl (fun k hk => by cases hk) (Nat.le_refl _) ⟨T, 0, none⟩ hTl).1.trans x0; clear z0; have HR : Hid (ListS base E T W (.slice va n vc) (n + 1) (xs ++ [.int .u8 110]) (fun s => [an, .pointer (some ⟨E, 0, none⟩), s, ln, mm]) [.int .u64 key] (w2.setCell ⟨T, 2, none⟩ (.slice (some ⟨g, 0, none⟩) 1 cap))) := list_fin hgrow HX.out hTb hEb hTE hb hcut.out rfl rfl rfl rfl hown hat hlt; clear hown hgrow hat hlt)
  go_ret
  exact ⟨rfl, HR.out⟩

end Go.Proofs.Ybulkebck
