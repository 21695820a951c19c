import Derived.Test.YbulkebckRer
import Derived.Laws.IdiomStrings
import Derived.Laws.StructEq
namespace Go.Proofs.Ybulkebck
open Go.RowKit
set_option linter.unusedVariables false

theorem eql30 (w : World) (p g s : Int) : (binOp .eql 30 (.agg #[.int .u64 p, .int .u32 g, .int .i64 s]) (.agg #[.int .u64 p, .int .u32 g, .int .i64 s])).run Yba.prog w = .ok (.bool true) w := by
  have hu : ∀ (d : Nat) (t : TypeId) (k : IntKind) (x : Int), Yba.prog.underlying t = some (.int k) → (Op.equalIn (d + 1) t (.int k x) (.int k x)).run Yba.prog w = .ok true w := fun d t k x h => by
    rw [run_equalIn_int w d t k k x x h]; simp
  have p0 : (part 28 #[Value.int .u64 p, Value.int .u32 g, Value.int .i64 s] 0).run Yba.prog w = .ok (.int .u64 p) w := by kernel_rfl
  have p1 : (part 23 #[Value.int .u64 p, Value.int .u32 g, Value.int .i64 s] 1).run Yba.prog w = .ok (.int .u32 g) w := by kernel_rfl
  have p2 : (part 3 #[Value.int .u64 p, Value.int .u32 g, Value.int .i64 s] 2).run Yba.prog w = .ok (.int .i64 s) w := by kernel_rfl
  have h30 : ∀ d : Nat, (Op.equalIn (d + 2) 30 (.agg #[.int .u64 p, .int .u32 g, .int .i64 s]) (.agg #[.int .u64 p, .int .u32 g, .int .i64 s])).run Yba.prog w = .ok true w := fun d => by
    unfold Op.equalIn
    simp [run_underlying Yba.underlying30, p0, p1, p2, hu _ 28 .u64 p Yba.underlying28, hu _ 23 .u32 g Yba.underlying23, hu _ 3 .i64 s Yba.underlying3]
  simp only [binOp]
  simp [Op.equal, Op.maxDepth, h30 9998]
theorem guard30 : Yba.prog.eqGuardType Yba.prog.depth 30 = false := by kernel_rfl

def Rdy (sub : Bool) (E : Nat) (w : World) (oa ia : Value) (hc : List Value) (X : World) : Prop :=
  ∃ mm ww, RowAt X E 42 [.slice none 0 0] ∧ RowAt X (E + 1) 64 [oa, .pointer (some ⟨E, 0, none⟩), .slice none 0 0, .slice none 0 0, mm] ∧ RowAt X (E + 1 + 1) 64 [ia, .pointer (some ⟨E, 0, none⟩), .slice none 0 0, .slice none 0 0, .nilIface] ∧
    (sub = true → mm = .iface 65 (.pointer (some ⟨E + 1 + 1 + 1, 0, none⟩)) ∧ RowAt X (E + 1 + 1 + 1) 69 [.pointer (some ⟨E, 0, none⟩), .iface 57 (.pointer (some ⟨E + 1 + 1, 0, none⟩)), ww]) ∧ RowAt X (w.heap.size + 1) 55 hc ∧ Below w.heap.size w X

theorem rdy3 {w W1 : World} {oa ia : Value} {hc : List Value} (hh : RowAt W1 (w.heap.size + 1) 55 hc) (hb : Below w.heap.size w W1) (hs : W1.heap.size = w.heap.size + 2) :
    Rdy false W1.heap.size w oa ia hc (((W1.alloc (.cells #[.slice none 0 0] 42)).alloc (.cells #[oa, .pointer (some ⟨W1.heap.size, 0, none⟩), .slice none 0 0, .slice none 0 0, .nilIface] 64)).alloc (.cells #[ia, .pointer (some ⟨W1.heap.size, 0, none⟩), .slice none 0 0, .slice none 0 0, .nilIface] 64)) := by
  refine ⟨.nilIface, .nilIface, ((RowAt.new W1 42 _).alloc _).alloc _, ?_, ?_, (fun h => by cases h), ((hh.alloc _).alloc _).alloc _, ((hb.alloc (by omega) _).alloc (by simp; omega) _).alloc (by simp; omega) _⟩
  · have h := RowAt.new (W1.alloc (.cells #[.slice none 0 0] 42)) 64 #[oa, .pointer (some ⟨W1.heap.size, 0, none⟩), .slice none 0 0, .slice none 0 0, .nilIface]
    simp only [World.size_alloc] at h
    exact h.alloc _
  · have h := RowAt.new ((W1.alloc (.cells #[.slice none 0 0] 42)).alloc (.cells #[oa, .pointer (some ⟨W1.heap.size, 0, none⟩), .slice none 0 0, .slice none 0 0, .nilIface] 64)) 64 #[ia, .pointer (some ⟨W1.heap.size, 0, none⟩), .slice none 0 0, .slice none 0 0, .nilIface]
    simp only [World.size_alloc] at h
    exact h
theorem rdy4 {sub : Bool} {w W1 : World} {oa ia mm ig ww : Value} {hc : List Value} (hh : RowAt W1 (w.heap.size + 1) 55 hc) (hb : Below w.heap.size w W1) (hs : W1.heap.size = w.heap.size + 2)
    (hsub : sub = true → mm = .iface 65 (.pointer (some ⟨W1.heap.size + 1 + 1 + 1, 0, none⟩)) ∧ ig = .iface 57 (.pointer (some ⟨W1.heap.size + 1 + 1, 0, none⟩))) :
    Rdy sub W1.heap.size w oa ia hc ((((W1.alloc (.cells #[.slice none 0 0] 42)).alloc (.cells #[oa, .pointer (some ⟨W1.heap.size, 0, none⟩), .slice none 0 0, .slice none 0 0, mm] 64)).alloc (.cells #[ia, .pointer (some ⟨W1.heap.size, 0, none⟩), .slice none 0 0, .slice none 0 0, .nilIface] 64)).alloc (.cells #[.pointer (some ⟨W1.heap.size, 0, none⟩), ig, ww] 69)) := by
  refine ⟨mm, ww, (((RowAt.new W1 42 _).alloc _).alloc _).alloc _, ?_, ?_, fun h => ⟨(hsub h).1, ?_⟩, (((hh.alloc _).alloc _).alloc _).alloc _, (((hb.alloc (by omega) _).alloc (by simp; omega) _).alloc (by simp; omega) _).alloc (by simp; omega) _⟩
  · have h := RowAt.new (W1.alloc (.cells #[.slice none 0 0] 42)) 64 #[oa, .pointer (some ⟨W1.heap.size, 0, none⟩), .slice none 0 0, .slice none 0 0, mm]
    simp only [World.size_alloc] at h
    exact (h.alloc _).alloc _
  · have h := RowAt.new ((W1.alloc (.cells #[.slice none 0 0] 42)).alloc (.cells #[oa, .pointer (some ⟨W1.heap.size, 0, none⟩), .slice none 0 0, .slice none 0 0, mm] 64)) 64 #[ia, .pointer (some ⟨W1.heap.size, 0, none⟩), .slice none 0 0, .slice none 0 0, .nilIface]
    simp only [World.size_alloc] at h
    exact h.alloc _
  · have h := RowAt.new (((W1.alloc (.cells #[.slice none 0 0] 42)).alloc (.cells #[oa, .pointer (some ⟨W1.heap.size, 0, none⟩), .slice none 0 0, .slice none 0 0, mm] 64)).alloc (.cells #[ia, .pointer (some ⟨W1.heap.size, 0, none⟩), .slice none 0 0, .slice none 0 0, .nilIface] 64)) 69 #[.pointer (some ⟨W1.heap.size, 0, none⟩), ig, ww]
    simp only [World.size_alloc] at h
    rw [(hsub ‹_›).2] at h ⊢
    exact h

section
variable {E O I n : Nat} {hc xs org : List Value} {oa no lo mm ia ni : Value} {key : Int} {W X Y : World} {v : Value}
theorem hop_kept {Hb : Nat} {cs : List Value} (h : Stt E O I hc n xs oa no lo mm ia ni key W X v) (hr : RowAt W Hb 55 cs) (h1 : Hb ≠ E) (h2 : Hb ≠ O) (h3 : Hb ≠ I) : RowAt X Hb 55 cs :=
  (h.2.2.2.2.2.2.1.block Hb hr.lt h1 h2 h3).trans hr
theorem bel_app {w0 wk w1 : World} {o : Obj} {v : Value} {n : Nat} {xs : List Value} (hb : Below w0.heap.size w0 wk) (ho : wk.ownsRow w0.heap.size 5 1 v n xs) (hg : (wk.alloc o).grownBy w1 v.ownBlock) : Below w0.heap.size w0 w1 :=
  (hb.alloc hb.size o).grown hg (by have := hb.size; simp; omega) (fun k hk => (ho.lt k hk).1)
theorem owns_below {base : Nat} {a b : World} {v : Value} {n : Nat} {xs : List Value} (h : a.ownsRow base 5 1 v n xs) (hb : Below a.heap.size a b) : b.ownsRow base 5 1 v n xs := by
  have hlt := h.lt
  obtain ⟨hl, h0 | ⟨g, cap, cur, he, hbg, hh, hr⟩⟩ := h
  · exact ⟨hl, .inl h0⟩
  · exact ⟨hl, .inr ⟨g, cap, cur, he, hbg, (hb.block g (hlt g (by rw [he]; rfl)).2).trans hh, hr⟩⟩
theorem NoV.below {base : Nat} {a b : World} {s v : Value} {key : Int} (h : NoV base a s v key) (hb : Below a.heap.size a b) : NoV base b s v key := by
  rcases h with h | ⟨g, cap, h1, h2, h3, h4, h5⟩
  · exact .inl h
  · exact .inr ⟨g, cap, h1, (hb.cell (p := ⟨g, 0, none⟩) h4).trans h2, h3, by have := hb.size; omega, h5⟩
theorem NoV.cell {base g cap : Nat} {X : World} {v : Value} {key : Int} (h : NoV base X (.slice (some ⟨g, 0, none⟩) 1 cap) v key) : X.cell? ⟨g, 0, none⟩ = some (.int .u64 key) := by
  rcases h with h | ⟨g', cap', h1, h2, _⟩
  · cases h
  · obtain rfl : g = g' := by injection h1 with e; injection e with e; injection e
    exact h2
theorem fin_at (h : Stt E O I hc n xs oa no lo mm ia ni key W X v) (hb : Below X.heap.size X Y) :
    RowAt Y E 42 [v] ∧ Y.ownsRow W.heap.size 5 1 v n xs ∧ RowAt Y O 64 [oa, .pointer (some ⟨E, 0, none⟩), no, lo, mm] ∧ RowAt Y I 64 [ia, .pointer (some ⟨E, 0, none⟩), ni, .slice none 0 0, .nilIface] ∧ NoV W.heap.size Y no v key ∧ NoV W.heap.size Y ni v key :=
  ⟨h.1.kept hb h.1.lt, owns_below h.2.1 hb, h.2.2.1.kept hb h.2.2.1.lt, h.2.2.2.1.kept hb h.2.2.2.1.lt, h.2.2.2.2.1.below hb, h.2.2.2.2.2.1.below hb⟩
theorem conv_owned {base : Nat} {X : World} {v : Value} {l : List UInt8} (hl : 0 < l.length) (h : X.ownsRow base 5 1 v l.length (l.map (fun b => Value.int .u8 (b.toNat : Int)))) : (convert 42 9 v).run Yba.prog X = .ok (.string ⟨l.toArray⟩) X := by
  obtain ⟨g, cap, rfl, _, _, _, hcells⟩ := owned_at h (fun e => by rw [e] at h; rcases h.2 with ⟨_, h0⟩ | ⟨g, cap, cur, he, _⟩; omega; cases he)
  exact run_convert_bytes_back X 42 9 5 ⟨g, 0, none⟩ cap l Yba.underlying42 Yba.underlying5 Yba.underlying9 (fun j hj => by rw [add0]; exact hcells j _ (by simp [hj]))
theorem below_fin {w : World} (hw : Below w.heap.size w W) (h : Stt E O I hc n xs oa no lo mm ia ni key W X v) (h1 : w.heap.size ≤ E) (h2 : w.heap.size ≤ O) (h3 : w.heap.size ≤ I) (hb : Below X.heap.size X Y) : Below w.heap.size w Y := by
  have hg := h.2.2.2.2.2.2.1
  have hx : Below w.heap.size W X := ⟨hg.os, hg.tape, hg.output, hg.size, fun k hk => hg.block k (by have := hw.size; omega) (by omega) (by omega) (by omega)⟩
  exact (hw.trans hx).trans (hb.mono (by have := hw.size; have := hg.size; omega))
theorem lov_kept {a b c : Value} (h : LoV true X lo [a, b, c]) (hb : Below X.heap.size X Y) : ∃ g cap, lo = .slice (some ⟨g, 0, none⟩) 1 cap ∧ ∀ j u, [a, b, c][j]? = some u → Y.cell? ⟨g, j, none⟩ = some u := by
  obtain ⟨g, cap, h1, h2⟩ := h
  have hlt : g < X.heap.size := by
    have h0 := h2 0 a rfl
    apply Classical.byContradiction
    intro hn
    have : X.heap[g]? = none := Array.getElem?_eq_none (by omega)
    simp [World.cell?, this] at h0
  exact ⟨g, cap, h1, fun j u hj => (hb.cell (p := ⟨g, j, none⟩) hlt).trans (h2 j u hj)⟩
end

end Go.Proofs.Ybulkebck
