import Derived.Test.YbulkebauKeys
import Derived.ArgAppend
namespace Go.Proofs.Ybulkebau
open Go.RowKit
set_option linter.unusedVariables false

theorem Yba.info61 : (Yba.prog.info? 61).map (fun i => (i.zero, i.size, i.bytes)) = some (some (.agg #[.slice none 0 0, .pointer none, .string ⟨#[]⟩]), 3, 48) := by kernel_rfl

set_option maxHeartbeats 400000 in
theorem try_full (S P : Nat) (o : Value) (w : World) (hq : w.cell? ⟨S, 35, none⟩ = some (.int .i64 64)) :
    Calls Yba.prog 14 #[.pointer (some ⟨S, 0, none⟩), o, .pointer (some ⟨P, 0, none⟩)] w fun e w' => e = .returned o ∧ w' = w := by
  go_enter Yba.func14, Yba.ntmps14
  go_wp2
  go_ret
  exact ⟨rfl, rfl⟩

/-- What try hands back, and leaves. -/
def Tried (S P : Nat) (xs sn pn : List Value) (kv pv : Value) (av : ByteArray) (w : World) (a' : Option Addr) (c' : Nat) (w' : World) : Prop :=
  ∃ g, a' = some ⟨g, 0, none⟩ ∧ g < w'.heap.size ∧ w.heap.size ≤ g ∧ (∀ j u, (xs ++ [kv, pv, .string av])[j]? = some u → w'.cell? ⟨g, j, none⟩ = some u) ∧ RowAt w' S 71 sn ∧ RowAt w' P 63 pn ∧
    w'.os = w.os ∧ w'.tape = w.tape ∧ w'.output = w.output ∧ w.heap.size ≤ w'.heap.size ∧ (∀ k, k < w.heap.size → k ≠ S → k ≠ P → w'.heap[k]? = w.heap[k]?)

theorem RowAt.other {w : World} {g : Nat} {e : TypeId} {cs : List Value} (h : RowAt w g e cs) {p : Addr} (hp : g ≠ p.block) (u : Value) : RowAt (w.setCell p u) g e cs := by
  unfold RowAt at h ⊢
  rw [Below.heap_setCell _ _ _ _ hp]
  exact h
theorem RowAt.alloc {w : World} {g : Nat} {e : TypeId} {cs : List Value} (h : RowAt w g e cs) (o : Obj) : RowAt (w.alloc o) g e cs :=
  (Below.heap_alloc w o g h.lt).trans h
theorem news_row (w : World) (cs : Array Value) (t : TypeId) : ∀ j u, cs.toList[j]? = some u → (w.alloc (.cells cs t)).cell? ((⟨w.heap.size, 0, none⟩ : Addr).add j) = some u := by
  intro j u hj
  rw [add_at, Nat.zero_add, (RowAt.new w t cs).cell]
  exact hj

/-- The world ahead of try's append. -/
structure Mid (S P : Nat) (sn pn : List Value) (cc : List Value) (w X : World) : Prop where
  c : RowAt X w.heap.size 61 cc
  s : RowAt X S 71 sn
  p : RowAt X P 63 pn
  os : X.os = w.os
  tape : X.tape = w.tape
  output : X.output = w.output
  size : X.heap.size = w.heap.size + 1
  block : ∀ k, k < w.heap.size → k ≠ S → k ≠ P → X.heap[k]? = w.heap[k]?
theorem mid_mk {S P : Nat} {q : Int} {t : Nat} {cc : Array Value} {w : World} {ss : List Value} {x0 x1 x2 x3 x4 x5 : Value} {u : Value} (hSP : S ≠ P) (hS : RowAt w S 71 ss) (hs : ss[35]? = some u) (hP : RowAt w P 63 [x0, x1, x2, x3, x4, x5]) :
    Mid S P (ss.set 35 (.int .i64 (wrap64 (q + 1)))) [x0, x1, x2, x3, .int .i64 ((t : Int) + 1), .bool true] cc.toList w ((((w.setCell ⟨P, 4, none⟩ (.int .i64 ((t : Int) + 1))).setCell ⟨P, 5, none⟩ (.bool true)).setCell ⟨S, 35, none⟩ (.int .i64 (wrap64 (q + 1)))).alloc (.cells cc 61)).drew := by
  have hP1 : RowAt (w.setCell ⟨P, 4, none⟩ (.int .i64 ((t : Int) + 1))) P 63 [x0, x1, x2, x3, .int .i64 ((t : Int) + 1), x5] := hP.set 4 _
  have hP2 : RowAt ((w.setCell ⟨P, 4, none⟩ (.int .i64 ((t : Int) + 1))).setCell ⟨P, 5, none⟩ (.bool true)) P 63 [x0, x1, x2, x3, .int .i64 ((t : Int) + 1), .bool true] := hP1.set 5 _
  have hP3 := hP2.other (p := ⟨S, 35, none⟩) (fun e => hSP e.symm) (.int .i64 (wrap64 (q + 1)))
  have hS3 := ((hS.other (p := ⟨P, 4, none⟩) hSP (.int .i64 ((t : Int) + 1))).other (p := ⟨P, 5, none⟩) hSP (.bool true)).set 35 (.int .i64 (wrap64 (q + 1)))
  have hl : 35 < ss.length := (List.getElem?_eq_some_iff.1 hs).1
  refine ⟨?_, hS3.alloc (.cells cc 61), hP3.alloc (.cells cc 61), rfl, rfl, rfl, ?_, fun k hk h1 h2 => ?_⟩
  · have h := RowAt.new (((w.setCell ⟨P, 4, none⟩ (.int .i64 ((t : Int) + 1))).setCell ⟨P, 5, none⟩ (.bool true)).setCell ⟨S, 35, none⟩ (.int .i64 (wrap64 (q + 1)))) 61 cc
    simp only [World.size_setCell] at h
    exact h
  · show (World.alloc _ _).heap.size = _
    simp
  · show (World.alloc _ _).heap[k]? = _
    rw [Below.heap_alloc _ _ _ (by simpa using hk), Below.heap_setCell _ _ _ _ h1, Below.heap_setCell _ _ _ _ h2, Below.heap_setCell _ _ _ _ h2]

theorem tried_mk {S P n : Nat} {xs sn pn : List Value} {kv pv : Value} {av : ByteArray} {w X w1 : World} {v' : Value} {o : Obj} (hSl : S < w.heap.size) (hPl : P < w.heap.size) (hm : Mid S P sn pn [kv, pv, .string av] w X)
    (hown : w1.ownsRow (X.heap.size + 1) 61 3 v' (n + 1) (xs ++ [kv, pv, .string av])) (hg : (X.alloc o).grownBy w1 none) : ∃ a' c', v' = .slice a' (n + 1) c' ∧ Tried S P xs sn pn kv pv av w a' c' w1 := by
  obtain ⟨g, cap, rfl, hb, hlt, _, hc⟩ := owned_at hown (fun e => by rw [e] at hown; rcases hown.2 with ⟨_, h⟩ | ⟨_, _, _, h, _⟩; omega; cases h)
  have hsz := hm.size
  have hbl : ∀ k, k < X.heap.size → w1.heap[k]? = X.heap[k]? := fun k hk => by
    rw [hg.block k (by simp; omega) (by simp), Below.heap_alloc _ _ _ hk]
  refine ⟨_, cap, rfl, g, rfl, hlt, by omega, hc, (hbl S (by omega)).trans hm.s, (hbl P (by omega)).trans hm.p, hg.os.trans hm.os, hg.tape.trans hm.tape, hg.output.trans hm.output, ?_, fun k hk h1 h2 => ?_⟩
  · have := hg.size
    simp at this
    omega
  · rw [hbl k (by omega)]
    exact hm.block k hk h1 h2

set_option maxRecDepth 100000 in
set_option maxHeartbeats 1600000 in
theorem try_more (S P ob ab ao n m ac : Nat) (xs : List Value) (q : Int) (t : Nat) (ka kc kn : Nat) (kv : Value) (kaddr : Option Addr) (pv : Option Addr) (ad av : ByteArray) (qb : Bool) (ss : List Value) (w : World) (hn : n ≤ 1048576) (hm : m ≤ 1048576) (ht : t < m) (hq : q ≠ 64) (hSP : S ≠ P)
    (hS : RowAt w S 71 ss) (hs : ss[35]? = some (.int .i64 q)) (hP : RowAt w P 63 [.slice kaddr kn kc, .pointer pv, .string ad, .slice (some ⟨ab, ao, none⟩) m ac, .int .i64 t, .bool qb])
    (hab : ab < w.heap.size) (hav : w.cell? ⟨ab, ao + t, none⟩ = some (.string av)) (hobl : ob < w.heap.size) (hxl : xs.length = n * 3) (hxs : ∀ j u, xs[j]? = some u → w.cell? ⟨ob, j, none⟩ = some u) (hoS : ob ≠ S) (hoP : ob ≠ P) :
    Calls Yba.prog 14 #[.pointer (some ⟨S, 0, none⟩), .slice (some ⟨ob, 0, none⟩) n n, .pointer (some ⟨P, 0, none⟩)] w fun e w' => ∃ a' c', e = .returned (.slice a' (n + 1) c') ∧ Tried S P xs (ss.set 35 (.int .i64 (wrap64 (q + 1)))) [.slice kaddr kn kc, .pointer pv, .string ad, .slice (some ⟨ab, ao, none⟩) m ac, .int .i64 ((t : Int) + 1), .bool true] (.slice kaddr kn kc) (.pointer pv) av w a' c' w' := by
  have hd : (q == 64) = false := beq_eq_false_iff_ne.2 hq
  have s35 : w.cell? ⟨S, 35, none⟩ = some (.int .i64 q) := (hS.cell 35).trans hs
  have sf := hS.free 35
  have p0 : w.cell? ⟨P, 0, none⟩ = some (.slice kaddr kn kc) := hP.cell 0
  have p1 : w.cell? ⟨P, 1, none⟩ = some (.pointer pv) := hP.cell 1
  have p2 : w.cell? ⟨P, 2, none⟩ = some (.string ad) := hP.cell 2
  have p3 : w.cell? ⟨P, 3, none⟩ = some (.slice (some ⟨ab, ao, none⟩) m ac) := hP.cell 3
  have p4 : w.cell? ⟨P, 4, none⟩ = some (.int .i64 t) := hP.cell 4
  have p5 : w.cell? ⟨P, 5, none⟩ = some (.bool qb) := hP.cell 5
  have f4 := hP.free 4
  have f5 := hP.free 5
  have hSl : S < w.heap.size := hS.lt
  have hPl : P < w.heap.size := hP.lt
  have hti : (t : Int) < (m : Int) := by omega
  have HS : Hid (RowAt w S 71 ss) := hS
  have HSS : Hid (ss[35]? = some (.int .i64 q)) := hs
  have HP : Hid (RowAt w P 63 [.slice kaddr kn kc, .pointer pv, .string ad, .slice (some ⟨ab, ao, none⟩) m ac, .int .i64 t, .bool qb]) := hP
  have HX : Hid (xs.length = n * 3 ∧ ∀ j u, xs[j]? = some u → w.cell? ⟨ob, j, none⟩ = some u) := ⟨hxl, hxs⟩
  obtain ⟨i0, hi, hz0, hz1, hz2⟩ := info_parts Yba.info61
  clear hS hP hs hxl hxs hq
  go_enter Yba.func14, Yba.ntmps14
  go_wp2_with fail
  go_region
  go_upto_region 8 with fail
  obtain ⟨X, hX⟩ : ∃ X, X = ((((w.setCell ⟨P, 4, none⟩ (.int .i64 ((t : Int) + 1))).setCell ⟨P, 5, none⟩ (.bool true)).setCell ⟨S, 35, none⟩ (.int .i64 (wrap64 (q + 1)))).alloc (.cells #[.slice kaddr kn kc, .pointer pv, .string av] 61)).drew := ⟨_, rfl⟩
  rw [← hX]
  have HM : Hid (Mid S P (ss.set 35 (.int .i64 (wrap64 (q + 1)))) [.slice kaddr kn kc, .pointer pv, .string ad, .slice (some ⟨ab, ao, none⟩) m ac, .int .i64 ((t : Int) + 1), .bool true] [.slice kaddr kn kc, .pointer pv, .string av] w X) := show Mid S P (ss.set 35 (.int .i64 (wrap64 (q + 1)))) [.slice kaddr kn kc, .pointer pv, .string ad, .slice (some ⟨ab, ao, none⟩) m ac, .int .i64 ((t : Int) + 1), .bool true] [.slice kaddr kn kc, .pointer pv, .string av] w X by rw [hX]; exact mid_mk hSP HS.out HSS.out HP.out
  clear hX s35 sf p0 p1 p2 p3 p4 p5 f4 f5 hav
  have y0 : X.cell? ⟨w.heap.size, 0, none⟩ = some (.slice kaddr kn kc) := HM.out.c.cell 0
  have y1 : X.cell? ⟨w.heap.size, 1, none⟩ = some (.pointer pv) := HM.out.c.cell 1
  have y2 : X.cell? ⟨w.heap.size, 2, none⟩ = some (.string av) := HM.out.c.cell 2
  have HOl : Hid (∀ b, some (⟨ob, 0, none⟩ : Addr) = some b → ∀ j u, xs[j]? = some u → (X.alloc (.cells #[.slice kaddr kn kc, .pointer pv, .string av] 61)).cell? (b.add j) = some u) := by
    intro b hb j u hj
    injection hb with hb
    subst hb
    rw [add_at, Nat.zero_add]
    have h1 : (X.alloc (.cells #[.slice kaddr kn kc, .pointer pv, .string av] 61)).heap[ob]? = w.heap[ob]? := by
      rw [Below.heap_alloc _ _ _ (by have := HM.out.size; omega)]
      exact HM.out.block ob hobl hoS hoP
    rw [World.cell?_of_block (w := w) (a := ⟨ob, j, none⟩) h1]
    exact HX.out.2 j u hj
  go_wp2_with (at_builtin; refine wpList_append_grows _ rfl (.tmp 46) (.tmp 48) 72 rfl 61 i0 _ 3 48 Yba.underlying72 hi hz0 hz1 hz2 rfl (by decide) (some ⟨ob, 0, none⟩) n n xs rfl (fun h => by cases h) HX.out.1 HOl.out ⟨X.heap.size, 0, none⟩ 1 1 [.slice kaddr kn kc, .pointer pv, .string av] rfl rfl (news_row X #[.slice kaddr kn kc, .pointer pv, .string av] 61) (by simp [Value.oneCell']) (by omega) (by unfold maxLen; omega) (by omega) ?_; intro v' w1 hown hgrow; obtain ⟨a', c', rfl, htr⟩ := tried_mk hSl hPl HM.out (by simpa using hown) hgrow; have HT : Hid (Tried S P xs (ss.set 35 (.int .i64 (wrap64 (q + 1)))) [.slice kaddr kn kc, .pointer pv, .string ad, .slice (some ⟨ab, ao, none⟩) m ac, .int .i64 ((t : Int) + 1), .bool true] (.slice kaddr kn kc) (.pointer pv) av w a' c' w1) := htr; clear hown hgrow htr)
  go_ret
  exact ⟨a', c', rfl, HT.out⟩
end Go.Proofs.Ybulkebau
