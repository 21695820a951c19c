import Derived.Test.YbulkebauTry
import Derived.Deep.RegionHeld3
namespace Go.Proofs.Ybulkebau
open Go.RowKit
set_option linter.unusedVariables false

abbrev bts (l : List UInt8) : List Value := l.map (fun b => Value.int .u8 (b.toNat : Int))
abbrev sts (n : Nat) (ss : Nat → ByteArray) : List Value := (List.range n).map (fun i => Value.string (ss i))

/-- The argument out, as it is read. -/
def Out (w : World) (oa : Option Addr) (N : Nat) (ka : Nat → Option Addr) (kn kc : Nat → Nat) (l : Nat → List UInt8) (sa : Nat → ByteArray) : Prop :=
  ∀ i, i < N → ∃ b o, oa = some ⟨b, o, none⟩ ∧ b < w.heap.size ∧ w.cell? ⟨b, o + i * 2, none⟩ = some (.slice (ka i) (kn i) (kc i)) ∧ w.cell? ⟨b, o + i * 2 + 1, none⟩ = some (.string (sa i)) ∧
    kn i = (l i).length ∧ kn i ≤ 140737488351232 ∧ (sa i).size ≤ 140737488351232 ∧ Sl w (ka i) (kn i) (kc i) (bts (l i))
theorem Out.kept {w w' : World} {oa : Option Addr} {N : Nat} {ka : Nat → Option Addr} {kn kc : Nat → Nat} {l : Nat → List UInt8} {sa : Nat → ByteArray} (h : Out w oa N ka kn kc l sa) (hb : Below w.heap.size w w') : Out w' oa N ka kn kc l sa := fun i hi => by
  obtain ⟨b, o, h1, h2, h3, h4, h5, h6, h7, h8⟩ := h i hi
  exact ⟨b, o, h1, Nat.lt_of_lt_of_le h2 hb.size, (hb.cell (p := ⟨b, o + i * 2, none⟩) h2).trans h3, (hb.cell (p := ⟨b, o + i * 2 + 1, none⟩) h2).trans h4, h5, h6, h7, h8.kept hb⟩

theorem below_drewN {B : Nat} {a w : World} (h : Below B a w) (q : Nat) : Below B a (w.drewN q) := ⟨h.os, h.tape, h.output, h.size, h.block⟩

/-- The addresses that the law goes on with. -/
def AdrAt (w : World) (s : Value) (X : World) : Prop :=
  ∃ ab ao m c ss, s = .slice (some ⟨ab, ao, none⟩) m c ∧ 1 ≤ m ∧ m ≤ 1048576 ∧ Sl X (some ⟨ab, ao, none⟩) m c (sts m ss) ∧ Below w.heap.size w X
theorem adr_old {w X : World} {a : Option Addr} {n c : Nat} {ss : Nat → ByteArray} (hn : n ≤ 1048576) (h1 : 1 ≤ n) (hs : Sl X a n c (sts n ss)) (hb : Below w.heap.size w X) : AdrAt w (.slice a n c) X := by
  obtain ⟨b, o, rfl, _⟩ := hs.2.2.2 0 (.string (ss 0)) (by simp [show 0 < n by omega])
  exact ⟨b, o, n, c, ss, rfl, h1, hn, hs, hb⟩
theorem adr_new {w X : World} {s0 : ByteArray} (hb : Below w.heap.size w X) : AdrAt w (.slice (some ⟨X.heap.size, 0, none⟩) 1 1) (X.alloc (.cells #[.string s0] 9)) := by
  refine ⟨X.heap.size, 0, 1, 1, fun _ => s0, rfl, by omega, by omega, ⟨by simp, (fun h => by cases h), ?_, fun j u hj => ⟨_, _, rfl, by simp, ?_⟩⟩, hb.alloc hb.size _⟩
  · intro u hu
    simp at hu
    obtain ⟨i, _, rfl⟩ := hu
    rfl
  · rw [Nat.zero_add, (RowAt.new X 9 #[.string s0]).cell]
    have e : sts 1 (fun _ => s0) = [.string s0] := rfl
    rw [e] at hj
    exact hj

/-- The token's pointer. -/
def TokIn (tk : Option Addr) (exp : Int) (X : World) : Prop := tk = none ∨ ∃ tb, tk = some ⟨tb, 0, none⟩ ∧ tb < X.heap.size ∧ X.cell? ⟨tb, 1, none⟩ = some (.int .u64 exp)
theorem TokIn.kept {tk : Option Addr} {exp : Int} {X Y : World} (h : TokIn tk exp X) (hb : Below X.heap.size X Y) : TokIn tk exp Y := by
  rcases h with h | ⟨tb, h1, h2, h3⟩
  · exact .inl h
  · exact .inr ⟨tb, h1, Nat.lt_of_lt_of_le h2 hb.size, (hb.cell (p := ⟨tb, 1, none⟩) h2).trans h3⟩
def TokAt (exp : Int) (w2 : World) (s : Value) (X : World) : Prop := ∃ tk, s = .pointer tk ∧ TokIn tk exp X ∧ Below w2.heap.size w2 X
theorem tok_new {exp : Int} {w2 : World} {a b c : Value} : TokAt exp w2 (.pointer (some ⟨w2.heap.size, 0, none⟩)) (w2.alloc (.cells #[a, .int .u64 exp, b, c] 44)) :=
  ⟨_, rfl, .inr ⟨_, rfl, by simp, (RowAt.new w2 44 #[a, .int .u64 exp, b, c]).cell 1⟩, (Below.refl _ _).alloc (Nat.le_refl _) _⟩
theorem make72 (n : Nat) (hn : n ≤ 1048576) (w : World) : (Instr.makeSlice 72 (.int .i64 (n : Int)) (.int .i64 (n : Int))).run Yba.prog w = .ok (.slice (some ⟨w.heap.size, 0, none⟩) n n) (w.alloc (.cells (madeCells #[.slice none 0 0, .pointer none, .string ⟨#[]⟩] (n * 3)) 61)) := by
  obtain ⟨i0, hi, hz0, hz1, hz2⟩ := info_parts Yba.info61
  have h := run_make (P := Yba.prog) w 72 61 i0 _ Yba.underlying72 hi hz0 .i64 .i64 n n (by omega) (Int.le_refl _) (by rw [hz2]; omega) (by omega)
  rw [hz1] at h
  simpa [Value.cells] using h

set_option maxRecDepth 100000 in
set_option maxHeartbeats 1600000 in
theorem bigC (oa a1 a5 : Option Addr) (N oc n1 c1 n5 c5 : Nat) (ht qg fl : Bool) (exp tr qs : Int) (ad : ByteArray) (w : World) (hN : N ≤ 140737488351232) (hn1 : n1 ≤ 140737488351232) (had : ad.size ≤ 140737488351232) (hn5 : n5 ≤ 140737488351232) (h : 1048576 < (N : Int) + (n1 : Int) + (ad.size : Int) + (n5 : Int)) :
    Calls Yba.prog 5 #[.slice oa N oc, .slice a1 n1 c1, .bool ht, .int .u64 exp, .string ad, .slice a5 n5 c5, .int .u64 tr, .bool qg, .int .i64 qs, .bool fl] w fun e w' => e = .returned (.bool true) ∧ Below w.heap.size w w' := by
  go_enter Yba.func5, Yba.ntmps5
  go_wp2
  go_ret
  exact ⟨rfl, Below.refl _ _⟩

/-! ### the copies of out -/
theorem Sl.but {w w' : World} {a : Option Addr} {n c O : Nat} {xs : List Value} (h : Sl w a n c xs) (ha : ∀ x, a = some x → x.block ≠ O) (hb : ∀ b, b ≠ O → b < w.heap.size → w'.heap[b]? = w.heap[b]?) (hs : w.heap.size ≤ w'.heap.size) : Sl w' a n c xs :=
  ⟨h.1, h.2.1, h.2.2.1, fun j u hj => by
    obtain ⟨b, o, h1, h2, h3⟩ := h.2.2.2 j u hj
    exact ⟨b, o, h1, Nat.lt_of_lt_of_le h2 hs, (World.cell?_of_block (w := w) (a := ⟨b, o + j, none⟩) (hb b (ha _ h1) h2)).trans h3⟩⟩

def Cks (k : Nat) (kn : Nat → Nat) (l : Nat → List UInt8) (sa : Nat → ByteArray) (O : Nat) (X : World) (cs : List Value) : Prop :=
  ∀ i, i < k → ∃ a c, cs[i * 3]? = some (.slice a (kn i) c) ∧ cs[i * 3 + 1]? = some (.pointer none) ∧ cs[i * 3 + 2]? = some (.string (sa i)) ∧ Sl X a (kn i) c (bts (l i)) ∧ ∀ x, a = some x → O < x.block
def MadeK (O N k : Nat) (kn : Nat → Nat) (l : Nat → List UInt8) (sa : Nat → ByteArray) (W4 X : World) : Prop :=
  ∃ cs, RowAt X O 61 cs ∧ cs.length = N * 3 ∧ Cks k kn l sa O X cs ∧ Below O W4 X
theorem MadeK.start {O N : Nat} {kn : Nat → Nat} {l : Nat → List UInt8} {sa : Nat → ByteArray} {W : World} {z : Array Value} (hO : W.heap.size = O) :
    MadeK O N 0 kn l sa (W.alloc (.cells (madeCells z (N * 3)) 61)) (W.alloc (.cells (madeCells z (N * 3)) 61)) := by
  subst hO
  exact ⟨_, RowAt.new W 61 _, by simp [size_madeCells], fun i hi => by omega, Below.refl _ _⟩
theorem MadeK.step {O N k n c : Nat} {kn : Nat → Nat} {l : Nat → List UInt8} {sa : Nat → ByteArray} {W4 X X0 X1 : World} {a : Option Addr} (h : MadeK O N k kn l sa W4 X) (hk : k < N) (hn : n = kn k) (hX : X0.heap = X.heap) (hX1 : Cl X0 n (bts (l k)) a c X1) (h1 : X0.os = X.os) (h2 : X0.tape = X.tape) (h3 : X0.output = X.output) :
    MadeK O N (k + 1) kn l sa W4 (((X1.setCell ⟨O, k * 3, none⟩ (.slice a n c)).setCell ⟨O, k * 3 + 1, none⟩ (.pointer none)).setCell ⟨O, k * 3 + 2, none⟩ (.string (sa k))) := by
  obtain ⟨cs, hr, hl, hc, hb⟩ := h
  obtain ⟨hb1, hs1, hf1⟩ := hX1
  subst hn
  have hO := hr.lt
  have hb2 : Below X.heap.size X X1 := ⟨hb1.os.trans h1, hb1.tape.trans h2, hb1.output.trans h3, by have := hb1.size; rw [hX] at this; exact this, fun j hj => by rw [hb1.block j (by rw [hX]; exact hj), hX]⟩
  have hbl : ∀ b, b ≠ O → (((X1.setCell ⟨O, k * 3, none⟩ (.slice a (kn k) c)).setCell ⟨O, k * 3 + 1, none⟩ (.pointer none)).setCell ⟨O, k * 3 + 2, none⟩ (.string (sa k))).heap[b]? = X1.heap[b]? := fun b hbO => by
    rw [Below.heap_setCell _ _ _ _ hbO, Below.heap_setCell _ _ _ _ hbO, Below.heap_setCell _ _ _ _ hbO]
  refine ⟨_, (((hr.kept hb2 hO).set (k * 3) _).set (k * 3 + 1) _).set (k * 3 + 2) _, by simpa using hl, fun i hi => ?_, ?_⟩
  · by_cases e : i = k
    · subst e
      refine ⟨a, c, ?_, ?_, ?_, hs1.but (O := O) (fun x hx => by have := hf1 x hx; rw [hX] at this; omega) (fun b hbO _ => hbl b hbO) (by simp), fun x hx => by have := hf1 x hx; rw [hX] at this; omega⟩
      · rw [List.getElem?_set_ne (by omega), List.getElem?_set_ne (by omega), List.getElem?_set_self (by omega)]
      · rw [List.getElem?_set_ne (by omega), List.getElem?_set_self (by simp; omega)]
      · rw [List.getElem?_set_self (by simp; omega)]
    · obtain ⟨a', c', g0, g1, g2, g3, g4⟩ := hc i (by omega)
      refine ⟨a', c', ?_, ?_, ?_, (g3.kept hb2).but (O := O) (fun x hx => Nat.ne_of_gt (g4 x hx)) (fun b hbO _ => hbl b hbO) (by simp), g4⟩
      · rw [List.getElem?_set_ne (by omega), List.getElem?_set_ne (by omega), List.getElem?_set_ne (by omega)]; exact g0
      · rw [List.getElem?_set_ne (by omega), List.getElem?_set_ne (by omega), List.getElem?_set_ne (by omega)]; exact g1
      · rw [List.getElem?_set_ne (by omega), List.getElem?_set_ne (by omega), List.getElem?_set_ne (by omega)]; exact g2
  · exact (((hb.trans (hb2.mono (by omega))).setCell (Nat.le_refl _) _).setCell (Nat.le_refl _) _).setCell (Nat.le_refl _) _
end Go.Proofs.Ybulkebau
