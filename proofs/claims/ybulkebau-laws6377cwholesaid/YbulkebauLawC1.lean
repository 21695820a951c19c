import Derived.Test.YbulkebauLawC0
namespace Go.Proofs.Ybulkebau
open Go.RowKit
set_option linter.unusedVariables false

def srch (q : Int) : Array Value := #[.int .u8 0, .int .u8 0, .int .u8 0, .int .u8 0, .int .u8 0, .int .u8 0, .int .u8 0, .int .u8 0, .int .u8 0, .int .u8 0, .int .u8 0, .int .u8 0, .int .u8 0, .int .u8 0, .int .u8 0, .int .u8 0, .int .u8 0, .int .u8 0, .int .u8 0, .int .u8 0, .int .u8 0, .int .u8 0, .int .u8 0, .int .u8 0, .int .u8 0, .int .u8 0, .int .u8 0, .int .u8 0, .int .u8 0, .int .u8 0, .int .u8 0, .int .u8 0, .nilIface, .pointer none, .map none, .int .i64 q, .int .i64 0]

/-- What is fixed ahead of the two boxes. -/
structure Fx (w w3 : World) (a24 : Option Addr) (m c24 : Nat) (a26 : Option Addr) (c26 : Nat) (ts : List Value) (a28 : Option Addr) (n1 c28 : Nat) (ks : List Value) (tk : Option Addr) (exp : Int) : Prop where
  bel : Below w.heap.size w w3
  s24 : Sl w3 a24 m c24 ts
  s26 : Sl w3 a26 m c26 ts
  s28 : Sl w3 a28 n1 c28 ks
  tok : TokIn tk exp w3
theorem Fx.kept {w w3 X : World} {a24 a26 a28 tk : Option Addr} {m c24 c26 n1 c28 : Nat} {ts ks : List Value} {exp : Int} (h : Fx w w3 a24 m c24 a26 c26 ts a28 n1 c28 ks tk exp) (hb : Below w3.heap.size w3 X) : Fx w X a24 m c24 a26 c26 ts a28 n1 c28 ks tk exp :=
  ⟨h.bel.trans (hb.mono h.bel.size), h.s24.kept hb, h.s26.kept hb, h.s28.kept hb, h.tok.kept hb⟩
theorem fx_tok {w W0 w1 w2 w3 : World} {a24 a26 a28 : Option Addr} {m c24 c26 n1 c28 : Nat} {ts ks : List Value} {exp : Int} {x y z : Value} (h0 : Below w.heap.size w W0) (h1 : Cl W0 m ts a24 c24 w1) (h2 : Cl w1 m ts a26 c26 w2) (h3 : Cl (w2.alloc (.cells #[x, .int .u64 exp, y, z] 44)) n1 ks a28 c28 w3) :
    Fx w w3 a24 m c24 a26 c26 ts a28 n1 c28 ks (some ⟨w2.heap.size, 0, none⟩) exp := by
  have hb2 : Below w.heap.size w w2 := (h0.trans (h1.1.mono h0.size)).trans (h2.1.mono (Nat.le_trans h0.size h1.1.size))
  have ha : Below w2.heap.size w2 (w2.alloc (.cells #[x, .int .u64 exp, y, z] 44)) := (Below.refl _ _).alloc (Nat.le_refl _) _
  have h23 : Below w2.heap.size w2 w3 := ha.trans (h3.1.mono (by simp))
  obtain ⟨tk, e, ht, _⟩ := tok_new (exp := exp) (w2 := w2) (a := x) (b := y) (c := z)
  injection e with e
  subst e
  exact ⟨hb2.trans (h23.mono hb2.size), (h1.2.1.kept h2.1).kept h23, h2.2.1.kept h23, h3.2.1, ht.kept h3.1⟩
theorem fx_nil {w W0 w1 w2 w3 : World} {a24 a26 a28 : Option Addr} {m c24 c26 n1 c28 : Nat} {ts ks : List Value} {exp : Int} (h0 : Below w.heap.size w W0) (h1 : Cl W0 m ts a24 c24 w1) (h2 : Cl w1 m ts a26 c26 w2) (h3 : Cl w2 n1 ks a28 c28 w3) :
    Fx w w3 a24 m c24 a26 c26 ts a28 n1 c28 ks none exp := by
  have hb2 : Below w.heap.size w w2 := (h0.trans (h1.1.mono h0.size)).trans (h2.1.mono (Nat.le_trans h0.size h1.1.size))
  exact ⟨hb2.trans (h3.1.mono hb2.size), (h1.2.1.kept h2.1).kept h3.1, h2.2.1.kept h3.1, h3.2.1, .inl rfl⟩

/-- Behind the two boxes and the make. -/
structure Bx (w : World) (P N : Nat) (q : Int) (a24 : Option Addr) (m c24 : Nat) (a26 : Option Addr) (c26 : Nat) (ts : List Value) (a28 : Option Addr) (n1 c28 : Nat) (ks : List Value) (tk : Option Addr) (exp : Int) (ad : ByteArray) (t : Nat) (qg : Bool) (X : World) : Prop where
  fx : Fx w X a24 m c24 a26 c26 ts a28 n1 c28 ks tk exp
  p : RowAt X P 63 [.slice a28 n1 c28, .pointer tk, .string ad, .slice a24 m c24, .int .i64 t, .bool qg]
  s : RowAt X (P + 1) 71 (srch q).toList
  le : w.heap.size ≤ P
theorem bx_mk {w w3 : World} {P N : Nat} {q : Int} {a24 a26 a28 tk : Option Addr} {m c24 c26 n1 c28 : Nat} {ts ks : List Value} {exp : Int} {ad : ByteArray} {t : Nat} {qg : Bool} {o : Obj} (hP : P = w3.heap.size) (h : Fx w w3 a24 m c24 a26 c26 ts a28 n1 c28 ks tk exp) :
    Bx w P N q a24 m c24 a26 c26 ts a28 n1 c28 ks tk exp ad t qg (((w3.alloc (.cells #[.slice a28 n1 c28, .pointer tk, .string ad, .slice a24 m c24, .int .i64 t, .bool qg] 63)).alloc (.cells (srch q) 71)).alloc o) := by
  subst hP
  refine ⟨h.kept ((((Below.refl _ _).alloc (Nat.le_refl _) _).alloc (by simp) _).alloc (by simp; omega) _), ((RowAt.new w3 63 _).alloc _).alloc _, ?_, h.bel.size⟩
  have h2 := RowAt.new (w3.alloc (.cells #[.slice a28 n1 c28, .pointer tk, .string ad, .slice a24 m c24, .int .i64 t, .bool qg] 63)) 71 (srch q)
  simp only [World.size_alloc] at h2
  exact h2.alloc _
theorem Bx.kept {w X Y : World} {P N : Nat} {q : Int} {a24 a26 a28 tk : Option Addr} {m c24 c26 n1 c28 : Nat} {ts ks : List Value} {exp : Int} {ad : ByteArray} {t : Nat} {qg : Bool} (h : Bx w P N q a24 m c24 a26 c26 ts a28 n1 c28 ks tk exp ad t qg X) (hb : Below X.heap.size X Y) : Bx w P N q a24 m c24 a26 c26 ts a28 n1 c28 ks tk exp ad t qg Y :=
  ⟨h.fx.kept hb, h.p.kept hb h.p.lt, h.s.kept hb h.s.lt, h.le⟩

theorem far3 {w : World} {O b i1 i2 i3 j : Nat} {u1 u2 u3 : Value} (h : b ≠ O) : (((w.setCell ⟨O, i1, none⟩ u1).setCell ⟨O, i2, none⟩ u2).setCell ⟨O, i3, none⟩ u3).cell? ⟨b, j, none⟩ = w.cell? ⟨b, j, none⟩ :=
  World.cell?_of_block (w := w) (a := ⟨b, j, none⟩) (by rw [Below.heap_setCell _ _ _ _ h, Below.heap_setCell _ _ _ _ h, Below.heap_setCell _ _ _ _ h])

theorem Cks.kept {k : Nat} {kn : Nat → Nat} {l : Nat → List UInt8} {sa : Nat → ByteArray} {O : Nat} {X Y : World} {cs : List Value} (h : Cks k kn l sa O X cs) (hb : Below X.heap.size X Y) : Cks k kn l sa O Y cs := fun i hi => by
  obtain ⟨a, c, g0, g1, g2, g3, g4⟩ := h i hi
  exact ⟨a, c, g0, g1, g2, g3.kept hb, g4⟩
/-- All that the law reads behind loop 3, ahead of try. -/
structure E6 (w : World) (P N : Nat) (q : Int) (a24 : Option Addr) (m c24 : Nat) (a26 : Option Addr) (c26 : Nat) (ts : List Value) (a28 : Option Addr) (n1 c28 : Nat) (ks : List Value) (tk : Option Addr) (exp : Int) (ad : ByteArray) (t : Nat) (qg : Bool) (kn : Nat → Nat) (l : Nat → List UInt8) (sa : Nat → ByteArray) (cs : List Value) (X : World) : Prop where
  fx : Fx w X a24 m c24 a26 c26 ts a28 n1 c28 ks tk exp
  p : RowAt X P 63 [.slice a28 n1 c28, .pointer tk, .string ad, .slice a24 m c24, .int .i64 t, .bool qg]
  s : RowAt X (P + 1) 71 (srch q).toList
  o : RowAt X (P + 1 + 1) 61 cs
  len : cs.length = N * 3
  cks : Cks N kn l sa (P + 1 + 1) X cs
theorem E6.kept {w X Y : World} {P N : Nat} {q : Int} {a24 a26 a28 tk : Option Addr} {m c24 c26 n1 c28 : Nat} {ts ks : List Value} {exp : Int} {ad : ByteArray} {t : Nat} {qg : Bool} {kn : Nat → Nat} {l : Nat → List UInt8} {sa : Nat → ByteArray} {cs : List Value}
    (h : E6 w P N q a24 m c24 a26 c26 ts a28 n1 c28 ks tk exp ad t qg kn l sa cs X) (hb : Below X.heap.size X Y) : E6 w P N q a24 m c24 a26 c26 ts a28 n1 c28 ks tk exp ad t qg kn l sa cs Y :=
  ⟨h.fx.kept hb, h.p.kept hb h.p.lt, h.s.kept hb h.s.lt, h.o.kept hb h.o.lt, h.len, h.cks.kept hb⟩
theorem e6_mk {w w3 W5 X : World} {P N : Nat} {q : Int} {a24 a26 a28 tk : Option Addr} {m c24 c26 n1 c28 : Nat} {ts ks : List Value} {exp : Int} {ad : ByteArray} {t : Nat} {qg : Bool} {kn : Nat → Nat} {l : Nat → List UInt8} {sa : Nat → ByteArray}
    (hP : P = w3.heap.size) (hf : Fx w w3 a24 m c24 a26 c26 ts a28 n1 c28 ks tk exp) (h35 : Below w3.heap.size w3 W5) (hb : Bx w P N q a24 m c24 a26 c26 ts a28 n1 c28 ks tk exp ad t qg W5) (hm : MadeK (P + 1 + 1) N N kn l sa W5 X) :
    ∃ cs, Below w3.heap.size w3 X ∧ E6 w P N q a24 m c24 a26 c26 ts a28 n1 c28 ks tk exp ad t qg kn l sa cs X := by
  obtain ⟨cs, h1, h2, h3, h4⟩ := hm
  exact ⟨cs, h35.trans (h4.mono (by omega)), hf.kept (h35.trans (h4.mono (by omega))), hb.p.kept h4 (by omega), hb.s.kept h4 (by omega), h1, h2, h3⟩

theorem e6_try {w w3 X Y : World} {P N : Nat} {q q' : Int} {a24 a26 a28 tk a' : Option Addr} {m c24 c26 n1 c28 c' : Nat} {ts ks : List Value} {exp : Int} {ad av : ByteArray} {t : Nat} {qg : Bool} {kn : Nat → Nat} {l : Nat → List UInt8} {sa : Nat → ByteArray} {cs pn : List Value} {kv pv : Value}
    (hP : P = w3.heap.size) (hf : Fx w w3 a24 m c24 a26 c26 ts a28 n1 c28 ks tk exp) (h3 : Below w3.heap.size w3 X) (h : E6 w P N q a24 m c24 a26 c26 ts a28 n1 c28 ks tk exp ad t qg kn l sa cs X)
    (ht : Tried (P + 1) P cs ((srch q).toList.set 35 (.int .i64 q')) pn kv pv av X a' c' Y) (hpn : pn = [.slice a28 n1 c28, .pointer tk, .string ad, .slice a24 m c24, .int .i64 ((t : Int) + 1), .bool true]) :
    E6 w P N q' a24 m c24 a26 c26 ts a28 n1 c28 ks tk exp ad (t + 1) true kn l sa cs Y ∧ ∃ g, a' = some ⟨g, 0, none⟩ ∧ g < Y.heap.size ∧ ∀ j u, (cs ++ [kv, pv, .string av])[j]? = some u → Y.cell? ⟨g, j, none⟩ = some u := by
  obtain ⟨g, e, hg, _, hc, hs, hp, h1, h2, h4, h5, h6⟩ := ht
  subst hpn
  have hx := h.o.lt
  refine ⟨⟨hf.kept ?_, hp, hs, ?_, h.len, ?_⟩, g, e, hg, hc⟩
  · exact ⟨h1.trans h3.os, h2.trans h3.tape, h4.trans h3.output, Nat.le_trans h3.size h5, fun k hk => (h6 k (by omega) (by omega) (by omega)).trans (h3.block k hk)⟩
  · exact (h6 _ hx (by omega) (by omega)).trans h.o
  · intro i hi
    obtain ⟨a, c, g0, g1, g2, g3, g4⟩ := h.cks i hi
    refine ⟨a, c, g0, g1, g2, ⟨g3.1, g3.2.1, g3.2.2.1, fun j u hj => ?_⟩, g4⟩
    obtain ⟨b, o, e1, e2, e3⟩ := g3.2.2.2 j u hj
    have := g4 _ e1
    simp at this
    exact ⟨b, o, e1, by omega, (World.cell?_of_block (w := X) (a := ⟨b, o + j, none⟩) (h6 b e2 (by omega) (by omega))).trans e3⟩
/-- What got holds. -/
def GotAt (g : Nat) (zs : List Value) (X : World) : Prop := g < X.heap.size ∧ ∀ j u, zs[j]? = some u → X.cell? ⟨g, j, none⟩ = some u
theorem GotAt.kept {g : Nat} {zs : List Value} {X Y : World} (h : GotAt g zs X) (hb : Below X.heap.size X Y) : GotAt g zs Y :=
  ⟨Nat.lt_of_lt_of_le h.1 hb.size, fun j u hj => (hb.cell (p := ⟨g, j, none⟩) h.1).trans (h.2 j u hj)⟩
theorem GotAt.old {g : Nat} {cs zs : List Value} {X : World} (h : GotAt g (cs ++ zs) X) {j : Nat} {u : Value} (hj : cs[j]? = some u) : X.cell? ⟨g, j, none⟩ = some u :=
  h.2 j u (by rw [List.getElem?_append_left (List.getElem?_eq_some_iff.1 hj).1]; exact hj)
theorem GotAt.new {g n : Nat} {cs zs : List Value} {X : World} (h : GotAt g (cs ++ zs) X) (hn : cs.length = n) {j : Nat} {u : Value} (hj : zs[j]? = some u) : X.cell? ⟨g, n + j, none⟩ = some u :=
  h.2 (n + j) u (by rw [List.getElem?_append_right (by omega), show n + j - cs.length = j by omega]; exact hj)
theorem try_e6 {w w3 X : World} {P N : Nat} {q : Int} {a24 a26 a28 tk : Option Addr} {m c24 c26 n1 c28 : Nat} {ts ks : List Value} {exp : Int} {ad av : ByteArray} {t : Nat} {qg : Bool} {kn : Nat → Nat} {l : Nat → List UInt8} {sa : Nat → ByteArray} {cs : List Value}
    (hP : P = w3.heap.size) (hf : Fx w w3 a24 m c24 a26 c26 ts a28 n1 c28 ks tk exp) (h3 : Below w3.heap.size w3 X) (h : E6 w P N q a24 m c24 a26 c26 ts a28 n1 c28 ks tk exp ad t qg kn l sa cs X)
    (hm : m ≤ 1048576) (hN : N ≤ 1048576) (ht : t < m) (hts : ts[t]? = some (.string av)) (hq : q ≠ 64) :
    Calls Yba.prog 14 #[.pointer (some ⟨P + 1, 0, none⟩), .slice (some ⟨P + 1 + 1, 0, none⟩) N N, .pointer (some ⟨P, 0, none⟩)] X fun e Y => ∃ g c', e = .returned (.slice (some ⟨g, 0, none⟩) (N + 1) c') ∧ E6 w P N (wrap64 (q + 1)) a24 m c24 a26 c26 ts a28 n1 c28 ks tk exp ad (t + 1) true kn l sa cs Y ∧ GotAt g (cs ++ [.slice a28 n1 c28, .pointer tk, .string av]) Y := by
  obtain ⟨ab, ao, rfl, hab, hav⟩ := h.fx.s24.2.2.2 t _ hts
  refine (try_more (P + 1) P (P + 1 + 1) ab ao N m c24 cs q t 0 c28 n1 (.int .i64 0) a28 tk ad av qg (srch q).toList X hN hm ht hq (by omega) h.s rfl h.p hab hav h.o.lt h.len (fun j u hj => (h.o.cell j).trans hj) (by omega) (by omega)).mono ?_
  rintro e Y ⟨a', c', rfl, htr⟩
  obtain ⟨he, g, rfl, hg, hz⟩ := e6_try hP hf h3 h htr rfl
  exact ⟨g, c', rfl, he, hg, hz⟩
theorem cl_lit {W0 w1 : World} {n c : Nat} {xs : List Value} {a : Option Addr} (s0 : ByteArray) (h : Cl W0 n xs a c w1) : Cl W0 1 (sts 1 (fun _ => s0)) (some ⟨w1.heap.size, 0, none⟩) 1 (w1.alloc (.cells #[.string s0] 9)) := by
  obtain ⟨ab, ao, m, c', ss, e, _, _, _, hb⟩ := adr_new (s0 := s0) h.1
  refine ⟨hb, ⟨by simp, (fun h => by cases h), ?_, fun j u hj => ⟨_, _, rfl, by simp, ?_⟩⟩, fun x hx => by injection hx with hx; rw [← hx]; exact h.1.size⟩
  · intro u hu
    simp at hu
    obtain ⟨i, _, rfl⟩ := hu
    rfl
  · rw [Nat.zero_add, (RowAt.new w1 9 #[.string s0]).cell]
    have e : sts 1 (fun _ => s0) = [.string s0] := rfl
    rw [e] at hj
    exact hj
theorem n28 (p : Option Addr) (w : World) : (binOp .neq 28 (.pointer p) (.pointer p)).run Yba.prog w = .ok (.bool false) w := by
  cases p with
  | none => kernel_rfl
  | some a =>
    obtain ⟨j, hte, hsz⟩ := Option.map_eq_some_iff.1 Yba.info44
    exact Lib.run_neq_ptr_same w a Yba.underlying28 hte
theorem n28s (a : Addr) (w : World) : (binOp .neq 28 (.pointer (some a)) (.pointer none)).run Yba.prog w = .ok (.bool true) w := by kernel_rfl
theorem n69 (w : World) : (binOp .neq 69 (.map none) (.map none)).run Yba.prog w = .ok (.bool false) w := by kernel_rfl
theorem n68 (w : World) : (binOp .neq 68 (.pointer none) (.pointer none)).run Yba.prog w = .ok (.bool false) w := by kernel_rfl
theorem n67 (w : World) : (binOp .neq 67 .nilIface .nilIface).run Yba.prog w = .ok (.bool false) w := by kernel_rfl
theorem TokIn.some {tb : Nat} {exp : Int} {X : World} (h : TokIn (some ⟨tb, 0, none⟩) exp X) : X.cell? ⟨tb, 1, none⟩ = some (.int .u64 exp) := by
  rcases h with h | ⟨tb', h1, _, h3⟩
  · cases h
  · injection h1 with h1
    injection h1 with h1
    rw [h1]
    exact h3
end Go.Proofs.Ybulkebau
