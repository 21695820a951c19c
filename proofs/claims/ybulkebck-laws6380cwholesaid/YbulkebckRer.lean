import Derived.Test.YbulkebckEv2
namespace Go.Proofs.Ybulkebck
open Go.RowKit
set_option linter.unusedVariables false

theorem inscope_whole (t : Value) (W : World) :
    Calls Yba.prog 16 #[t, .int .i64 0] W fun e w' => e = .returned (.tuple #[t, .nilIface]) ∧ w' = W := by
  go_enter Yba.func16, Yba.ntmps16
  go_wp2
  go_ret2
  exact ⟨rfl, rfl⟩

theorem evs_form {base E T : Nat} {W X : World} {v : Value} {n : Nat} {xs : List Value} (h : EvS base E T W v n xs X) : ∃ v' a c, v' = .slice a n c ∧ RowAt X E 42 [v'] ∧ X.ownsRow base 5 1 v' n xs ∧ Fr E T v.ownBlock W X ∧ ∀ k, v'.ownBlock = some k → v.ownBlock = some k ∨ W.heap.size ≤ k := by
  obtain ⟨v', h1, h2, h3, h4⟩ := h
  obtain ⟨a, c, hv⟩ := owns_form h2
  exact ⟨v', a, c, hv, h1, h2, h3, h4⟩
theorem Fr.andThen {E T T' : Nat} {r r' : Option Nat} {W X Y : World} (h : Fr E T r W X) (k : Fr E T' r' X Y) (hr : ∀ i, r' = some i → r = some i ∨ W.heap.size ≤ i) :
    ∀ i, i < W.heap.size → i ≠ E → i ≠ T → i ≠ T' → some i ≠ r → Y.heap[i]? = W.heap[i]? := fun i hi h1 h2 h3 h4 => by
  have := h.size
  rw [k.block i (by omega) h1 h3 (fun e => by rcases hr i e.symm with h | h; exact h4 h.symm; omega)]
  exact h.block i hi h1 h2 h4
theorem evs_trans {base E : Nat} {W X Y : World} {v v' : Value} {n' : Nat} {xs' : List Value} (h3 : Fr E E v.ownBlock W X) (h4 : ∀ k, v'.ownBlock = some k → v.ownBlock = some k ∨ W.heap.size ≤ k) (k : EvS base E E X v' n' xs' Y) : EvS base E E W v n' xs' Y := by
  obtain ⟨v2, k1, k2, k3, k4⟩ := k
  have := h3.size
  have := k3.size
  refine ⟨v2, k1, k2, ⟨k3.os.trans h3.os, k3.tape.trans h3.tape, k3.output.trans h3.output, by omega, fun i hi hE _ hr => h3.andThen k3 h4 i hi hE hE hE hr⟩, fun i hi => ?_⟩
  rcases k4 i hi with h | h
  · exact h4 i h
  · exact .inr (by omega)

theorem m_member (a : Addr) (w : World) : (method 257 57 (.pointer (some a)) "Member").run Yba.prog w = .ok (59, .pointer (some a)) w := by kernel_rfl
theorem m_next (a : Addr) (w : World) : (method 257 57 (.pointer (some a)) "Next").run Yba.prog w = .ok (60, .pointer (some a)) w := by kernel_rfl
theorem m_learn (a : Addr) (w : World) : (method 257 57 (.pointer (some a)) "Learn").run Yba.prog w = .ok (58, .pointer (some a)) w := by kernel_rfl
theorem m_ingroup (a : Addr) (w : World) : (method 257 65 (.pointer (some a)) "InGroup").run Yba.prog w = .ok (64, .pointer (some a)) w := by kernel_rfl
theorem neq62 (t : TypeId) (x : Value) (w : World) : (binOp .neq 62 (.iface t x) .nilIface).run Yba.prog w = .ok (.bool true) w := by kernel_rfl
theorem neq67 (t : TypeId) (x : Value) (w : World) : (binOp .neq 67 (.iface t x) .nilIface).run Yba.prog w = .ok (.bool true) w := by kernel_rfl

set_option maxRecDepth 100000 in
set_option maxHeartbeats 800000 in
theorem inscope_sub (O I M E base n : Nat) (sc : Int) (v oa on ol ww : Value) (xs : List Value) (W : World) (hsc : sc ≠ 0) (hn : n ≤ 90)
    (hO : RowAt W O 64 [oa, .pointer (some ⟨E, 0, none⟩), on, ol, .iface 65 (.pointer (some ⟨M, 0, none⟩))]) (hM : RowAt W M 69 [.pointer (some ⟨E, 0, none⟩), .iface 57 (.pointer (some ⟨I, 0, none⟩)), ww]) (hE : RowAt W E 42 [v])
    (hown : W.ownsRow base 5 1 v n xs) (hEb : E < base) (hOb : O < base) (hMb : M < base) (hb : base ≤ W.heap.size) (hOE : O ≠ E) (hME : M ≠ E) (hv : ∃ a c, v = .slice a n c) :
    Calls Yba.prog 16 #[.iface 57 (.pointer (some ⟨O, 0, none⟩)), .int .i64 sc] W fun e w' => e = .returned (.tuple #[.iface 57 (.pointer (some ⟨I, 0, none⟩)), .nilIface]) ∧ EvS base E E W v (n + 2) ((xs ++ [.int .u8 109]) ++ [.int .u8 103]) w' := by
  have hd : (sc == 0) = false := beq_eq_false_iff_ne.2 hsc
  have mm := m_member
  have mg := m_ingroup
  have n62 := neq62
  have n67 := neq67
  have HO : Hid (RowAt W O 64 [oa, .pointer (some ⟨E, 0, none⟩), on, ol, .iface 65 (.pointer (some ⟨M, 0, none⟩))]) := hO
  have HM : Hid (RowAt W M 69 [.pointer (some ⟨E, 0, none⟩), .iface 57 (.pointer (some ⟨I, 0, none⟩)), ww]) := hM
  have HE : Hid (RowAt W E 42 [v]) := hE
  have HW : Hid (W.ownsRow base 5 1 v n xs) := hown
  have HV : Hid (∃ a c, v = .slice a n c) := hv
  clear hO hM hE hown hv hsc
  go_enter Yba.func16, Yba.ntmps16
  go_wp2_with (first
    | (go_at_call 59; refine (member_any O E base n v _ _ _ _ xs W (by omega) HO.out HE.out HW.out hEb hOb hb hOE HV.out).mono ?_; rintro e w1 ⟨rfl, h1⟩; have H1 : Hid (EvS base E E W v (n + 1) (xs ++ [.int .u8 109]) w1) := h1; clear h1; obtain ⟨v1, a1, c1, hv1, he1, ho1, hf1, hk1⟩ := evs_form H1.out; have HM1 : Hid (RowAt w1 M 69 [.pointer (some ⟨E, 0, none⟩), .iface 57 (.pointer (some ⟨I, 0, none⟩)), ww]) := hf1.row HM.out hME hME (fun e => by have := (HW.out.lt M e.symm).1; omega); have HE1 : Hid (RowAt w1 E 42 [v1]) := he1; have HW1 : Hid (w1.ownsRow base 5 1 v1 (n + 1) (xs ++ [.int .u8 109])) := ho1; have HF1 : Hid (Fr E E v.ownBlock W w1) := hf1; have HK1 : Hid (∀ k, v1.ownBlock = some k → v.ownBlock = some k ∨ W.heap.size ≤ k) := hk1; have HV1 : Hid (∃ a c, v1 = .slice a (n + 1) c) := ⟨a1, c1, hv1⟩; have hb1 : base ≤ w1.heap.size := Nat.le_trans hb hf1.size; clear hv1 he1 ho1 hf1 hk1)
    | (go_at_call 64; refine (ingroup_any M E base (n + 1) v1 _ _ (xs ++ [.int .u8 109]) w1 (by omega) HM1.out HE1.out HW1.out hEb hMb hb1 hME HV1.out).mono ?_; rintro e w2 ⟨rfl, h2⟩; have H2 : Hid (EvS base E E W v (n + 2) ((xs ++ [.int .u8 109]) ++ [.int .u8 103]) w2) := evs_trans HF1.out HK1.out h2; clear h2))
  go_ret2
  exact ⟨rfl, H2.out⟩

/-- One entry of a list of Next, apart from the log's row. -/
def NoV (base : Nat) (X : World) (s v : Value) (key : Int) : Prop :=
  s = .slice none 0 0 ∨ ∃ g cap, s = .slice (some ⟨g, 0, none⟩) 1 cap ∧ X.cell? ⟨g, 0, none⟩ = some (.int .u64 key) ∧ base ≤ g ∧ g < X.heap.size ∧ v.ownBlock ≠ some g
theorem NoV.step {base E T : Nat} {X Y : World} {s v v' : Value} {key : Int} (h : NoV base X s v key) (hf : Fr E T v.ownBlock X Y) (hk : ∀ k, v'.ownBlock = some k → v.ownBlock = some k ∨ X.heap.size ≤ k) (hE : E < base) (hT : T < base) : NoV base Y s v' key := by
  rcases h with h | ⟨g, cap, h1, h2, h3, h4, h5⟩
  · exact .inl h
  · refine .inr ⟨g, cap, h1, ?_, h3, by have := hf.size; omega, fun e => ?_⟩
    · rw [World.cell?_of_block (w := X) (hf.block g h4 (by omega) (by omega) (fun e => h5 e.symm))]
      exact h2
    · rcases hk g e with h | h
      · exact h5 h
      · omega

/-- Of what was there nothing has turned but E, O, I. -/
structure Gf (E O I : Nat) (W X : World) : Prop where
  os : X.os = W.os
  tape : X.tape = W.tape
  output : X.output = W.output
  size : W.heap.size ≤ X.heap.size
  block : ∀ k, k < W.heap.size → k ≠ E → k ≠ O → k ≠ I → X.heap[k]? = W.heap[k]?
theorem Gf.step {E O I T : Nat} {r : Option Nat} {W X Y : World} (h : Gf E O I W X) (hf : Fr E T r X Y) (hT : T = E ∨ T = O ∨ T = I) (hr : ∀ k, r = some k → W.heap.size ≤ k) : Gf E O I W Y :=
  ⟨hf.os.trans h.os, hf.tape.trans h.tape, hf.output.trans h.output, Nat.le_trans h.size hf.size, fun k hk h1 h2 h3 => by
    rw [hf.block k (by have := h.size; omega) h1 (by omega) (fun e => by have := hr k e.symm; omega)]
    exact h.block k hk h1 h2 h3⟩

/-- Where Reroute stands: the log v with n events xs, the two tables, the hop, and what has been left alone. -/
def Stt (E O I : Nat) (hc : List Value) (n : Nat) (xs : List Value) (oa no lo mm ia ni : Value) (key : Int) (W X : World) (v : Value) : Prop :=
  RowAt X E 42 [v] ∧ X.ownsRow W.heap.size 5 1 v n xs ∧ RowAt X O 64 [oa, .pointer (some ⟨E, 0, none⟩), no, lo, mm] ∧ RowAt X I 64 [ia, .pointer (some ⟨E, 0, none⟩), ni, .slice none 0 0, .nilIface] ∧
    NoV W.heap.size X no v key ∧ NoV W.heap.size X ni v key ∧ Gf E O I W X ∧ RowAt X W.heap.size 55 hc ∧ v.ownBlock ≠ some W.heap.size
structure Apart (E O I : Nat) (W : World) : Prop where
  lE : E < W.heap.size
  lO : O < W.heap.size
  lI : I < W.heap.size
  oe : O ≠ E
  ie : I ≠ E
  oi : O ≠ I

section
variable {E O I n n' : Nat} {hc xs xs' org : List Value} {oa no lo mm ia ni : Value} {key : Int} {W X Y : World} {v : Value}
theorem Stt.form (h : Stt E O I hc n xs oa no lo mm ia ni key W X v) : ∃ a c, v = .slice a n c := owns_form h.2.1
theorem Stt.far (h : Stt E O I hc n xs oa no lo mm ia ni key W X v) {k : Nat} (hk : k < W.heap.size) : some k ≠ v.ownBlock := fun e => by
  have := (h.2.1.lt k e.symm).1
  omega
theorem Stt.sz (h : Stt E O I hc n xs oa no lo mm ia ni key W X v) : W.heap.size ≤ X.heap.size := h.2.2.2.2.2.2.1.size
theorem Stt.hop (h : Stt E O I hc n xs oa no lo mm ia ni key W X v) {T : Nat} {v' : Value} (hE : E < W.heap.size) (hT : T < W.heap.size) (k3 : Fr E T v.ownBlock X Y) (k4 : ∀ k, v'.ownBlock = some k → v.ownBlock = some k ∨ X.heap.size ≤ k) :
    RowAt Y W.heap.size 55 hc ∧ v'.ownBlock ≠ some W.heap.size := by
  obtain ⟨_, _, _, _, _, _, _, h1, h2⟩ := h
  refine ⟨k3.row h1 (by omega) (by omega) (fun e => h2 e.symm), fun e => ?_⟩
  have := h1.lt
  rcases k4 _ e with h | h
  · exact h2 h
  · omega
theorem Stt.ev (h : Stt E O I hc n xs oa no lo mm ia ni key W X v) (ha : Apart E O I W) (k : EvS W.heap.size E E X v n' xs' Y) :
    ∃ v', Stt E O I hc n' xs' oa no lo mm ia ni key W Y v' := by
  obtain ⟨v', k1, k2, k3, k4⟩ := k
  exact ⟨v', k1, k2, k3.row h.2.2.1 ha.oe ha.oe (h.far ha.lO), k3.row h.2.2.2.1 ha.ie ha.ie (h.far ha.lI), h.2.2.2.2.1.step k3 k4 ha.lE ha.lE, h.2.2.2.2.2.1.step k3 k4 ha.lE ha.lE, h.2.2.2.2.2.2.1.step k3 (.inl rfl) (fun k hk => (h.2.1.lt k hk).1), h.hop ha.lE ha.lE k3 k4⟩
theorem Stt.nextO (h : Stt E O I hc n xs oa (.slice none 0 0) lo mm ia ni key W X v) (ha : Apart E O I W)
    (k : ListS W.heap.size E O X v n' xs' (fun s => [oa, .pointer (some ⟨E, 0, none⟩), s, lo, mm]) [.int .u64 key] Y) :
    ∃ v' g cap, Stt E O I hc n' xs' oa (.slice (some ⟨g, 0, none⟩) 1 cap) lo mm ia ni key W Y v' := by
  obtain ⟨v', g, cap, k1, k2, k3, k4, k5, k6, k7, k8, k9⟩ := k
  have hg := h.sz
  exact ⟨v', g, cap, k1, k2, k5, k3.row h.2.2.2.1 ha.ie (fun e => ha.oi e.symm) (h.far ha.lI), .inr ⟨g, cap, rfl, k6 0 _ rfl, by omega, k8, k9⟩, h.2.2.2.2.2.1.step k3 k4 ha.lE ha.lO, h.2.2.2.2.2.2.1.step k3 (.inr (.inl rfl)) (fun k hk => (h.2.1.lt k hk).1), h.hop ha.lE ha.lO k3 k4⟩
theorem Stt.nextI (h : Stt E O I hc n xs oa no lo mm ia (.slice none 0 0) key W X v) (ha : Apart E O I W)
    (k : ListS W.heap.size E I X v n' xs' (fun s => [ia, .pointer (some ⟨E, 0, none⟩), s, .slice none 0 0, .nilIface]) [.int .u64 key] Y) :
    ∃ v' g cap, Stt E O I hc n' xs' oa no lo mm ia (.slice (some ⟨g, 0, none⟩) 1 cap) key W Y v' := by
  obtain ⟨v', g, cap, k1, k2, k3, k4, k5, k6, k7, k8, k9⟩ := k
  have hg := h.sz
  exact ⟨v', g, cap, k1, k2, k3.row h.2.2.1 ha.oe ha.oi (h.far ha.lO), k5, h.2.2.2.2.1.step k3 k4 ha.lE ha.lI, .inr ⟨g, cap, rfl, k6 0 _ rfl, by omega, k8, k9⟩, h.2.2.2.2.2.2.1.step k3 (.inr (.inr rfl)) (fun k hk => (h.2.1.lt k hk).1), h.hop ha.lE ha.lI k3 k4⟩

/-- The learned: one entry, the origin; or none. -/
def LoV (ends : Bool) (X : World) (lo : Value) (org : List Value) : Prop :=
  match ends with
  | true => ∃ g cap, lo = .slice (some ⟨g, 0, none⟩) 1 cap ∧ ∀ j u, org[j]? = some u → X.cell? ⟨g, j, none⟩ = some u
  | false => lo = .slice none 0 0
theorem Stt.learn (h : Stt E O I hc n xs oa no lo mm ia ni key W X v) (ha : Apart E O I W)
    (k : ListS W.heap.size E O X v n' xs' (fun s => [oa, .pointer (some ⟨E, 0, none⟩), no, s, mm]) org Y) :
    ∃ v' lo', Stt E O I hc n' xs' oa no lo' mm ia ni key W Y v' ∧ LoV true Y lo' org := by
  obtain ⟨v', g, cap, k1, k2, k3, k4, k5, k6, k7, k8, k9⟩ := k
  exact ⟨v', _, ⟨k1, k2, k5, k3.row h.2.2.2.1 ha.ie (fun e => ha.oi e.symm) (h.far ha.lI), h.2.2.2.2.1.step k3 k4 ha.lE ha.lO, h.2.2.2.2.2.1.step k3 k4 ha.lE ha.lO, h.2.2.2.2.2.2.1.step k3 (.inr (.inl rfl)) (fun k hk => (h.2.1.lt k hk).1), h.hop ha.lE ha.lO k3 k4⟩, g, cap, rfl, k6⟩

/-- The contracts, at such a place. -/
theorem Stt.callNextO (h : Stt E O I hc n xs oa (.slice none 0 0) lo mm ia ni key W X v) (ha : Apart E O I W) (hn : n ≤ 100) :
    Calls Yba.prog 60 #[.pointer (some ⟨O, 0, none⟩), .int .u64 key] X fun e w' => e = .returned oa ∧ ∃ v' g cap, Stt E O I hc (n + 1) (xs ++ [.int .u8 110]) oa (.slice (some ⟨g, 0, none⟩) 1 cap) lo mm ia ni key W w' v' :=
  (next_any O E W.heap.size n v mm lo oa key xs X hn h.2.2.1 h.1 h.2.1 ha.lE ha.lO h.sz ha.oe h.form).mono fun e w' hq => ⟨hq.1, h.nextO ha hq.2⟩
theorem Stt.callNextI (h : Stt E O I hc n xs oa no lo mm ia (.slice none 0 0) key W X v) (ha : Apart E O I W) (hn : n ≤ 100) :
    Calls Yba.prog 60 #[.pointer (some ⟨I, 0, none⟩), .int .u64 key] X fun e w' => e = .returned ia ∧ ∃ v' g cap, Stt E O I hc (n + 1) (xs ++ [.int .u8 110]) oa no lo mm ia (.slice (some ⟨g, 0, none⟩) 1 cap) key W w' v' :=
  (next_any I E W.heap.size n v .nilIface (.slice none 0 0) ia key xs X hn h.2.2.2.1 h.1 h.2.1 ha.lE ha.lI h.sz ha.ie h.form).mono fun e w' hq => ⟨hq.1, h.nextI ha hq.2⟩
theorem Stt.callAnswer (h : Stt E O I hc n xs oa no lo mm ia ni key W X v) (ha : Apart E O I W) (hn : n ≤ 100) :
    Calls Yba.prog 12 #[.pointer (some ⟨E, 0, none⟩)] X fun e w' => e = .returned (.tuple #[]) ∧ ∃ v', Stt E O I hc (n + 1) (xs ++ [.int .u8 97]) oa no lo mm ia ni key W w' v' :=
  (answer_any E W.heap.size n v xs X hn h.1 h.2.1 ha.lE h.sz h.form).mono fun e w' hq => ⟨hq.1, h.ev ha hq.2⟩
theorem Stt.callLearn {op og os : Int} (h : Stt E O I hc n xs oa no (.slice none 0 0) mm ia ni key W X v) (ha : Apart E O I W) (hn : n ≤ 100) :
    Calls Yba.prog 58 #[.pointer (some ⟨O, 0, none⟩), .agg #[.int .u64 op, .int .u32 og, .int .i64 os]] X fun e w' => e = .returned (.tuple #[]) ∧ ∃ v' lo', Stt E O I hc (n + 1) (xs ++ [.int .u8 108]) oa no lo' mm ia ni key W w' v' ∧ LoV true w' lo' [.int .u64 op, .int .u32 og, .int .i64 os] :=
  (learn_any O E W.heap.size n v mm no oa op og os xs X hn h.2.2.1 h.1 h.2.1 ha.lE ha.lO h.sz ha.oe h.form).mono fun e w' hq => ⟨hq.1, h.learn ha hq.2⟩
theorem Stt.callScope {M : Nat} {sc : Int} {ww : Value} (h : Stt E O I hc n xs oa no lo (.iface 65 (.pointer (some ⟨M, 0, none⟩))) ia ni key W X v) (ha : Apart E O I W) (hn : n ≤ 90) (hsc : sc ≠ 0) (hM : RowAt X M 69 [.pointer (some ⟨E, 0, none⟩), .iface 57 (.pointer (some ⟨I, 0, none⟩)), ww]) (hMl : M < W.heap.size) (hME : M ≠ E) :
    Calls Yba.prog 16 #[.iface 57 (.pointer (some ⟨O, 0, none⟩)), .int .i64 sc] X fun e w' => e = .returned (.tuple #[.iface 57 (.pointer (some ⟨I, 0, none⟩)), .nilIface]) ∧ ∃ v', Stt E O I hc (n + 2) ((xs ++ [.int .u8 109]) ++ [.int .u8 103]) oa no lo (.iface 65 (.pointer (some ⟨M, 0, none⟩))) ia ni key W w' v' :=
  (inscope_sub O I M E W.heap.size n sc v oa no lo ww xs X hsc hn h.2.2.1 hM h.1 h.2.1 ha.lE ha.lO hMl h.sz ha.oe hME h.form).mono fun e w' hq => ⟨hq.1, h.ev ha hq.2⟩
end

/-- Reroute's events behind Next. -/
def tailEv (ends anil : Bool) : List Value := if ends then (if anil then [.int .u8 108] else [.int .u8 97, .int .u8 108]) else []
def fnOf (anil : Bool) (E : Nat) : Value := if anil then .nilFunc else .func (.func 12) #[] #[.pointer (some ⟨E, 0, none⟩)]

def DoneW (E O I : Nat) (ends anil : Bool) (hc : List Value) (oa mm ia : Value) (key : Int) (org : List Value) (W X : World) : Prop :=
  ∃ v g cap lo, Stt E O I hc (1 + (tailEv ends anil).length) ([.int .u8 110] ++ tailEv ends anil) oa (.slice (some ⟨g, 0, none⟩) 1 cap) lo mm ia (.slice none 0 0) key W X v ∧ LoV ends X lo org
def DoneS (E O I : Nat) (ends anil : Bool) (hc : List Value) (oa mm ia : Value) (key : Int) (org : List Value) (W X : World) : Prop :=
  ∃ v g cap lo, Stt E O I hc (3 + (tailEv ends anil).length) ([.int .u8 109, .int .u8 103, .int .u8 110] ++ tailEv ends anil) oa (.slice none 0 0) lo mm ia (.slice (some ⟨g, 0, none⟩) 1 cap) key W X v ∧ LoV ends X lo org

theorem neq1n (w : World) : (binOp .neq 1 .nilFunc .nilFunc).run Yba.prog w = .ok (.bool false) w := by kernel_rfl
theorem neq1 (f : Fn) (a b : Array Value) (w : World) : (binOp .neq 1 (.func f a b) .nilFunc).run Yba.prog w = .ok (.bool true) w := by kernel_rfl

set_option maxRecDepth 100000 in
set_option maxHeartbeats 1600000 in
theorem reroute_whole (O I E : Nat) (want at_ key op og os fp fg fs : Int) (jn ends anil : Bool) (mm ia : Value) (W : World) (hends : (want == at_) = ends) (ha : Apart E O I W)
    (hE : RowAt W E 42 [.slice none 0 0]) (hO : RowAt W O 64 [.int .u64 want, .pointer (some ⟨E, 0, none⟩), .slice none 0 0, .slice none 0 0, mm]) (hI : RowAt W I 64 [ia, .pointer (some ⟨E, 0, none⟩), .slice none 0 0, .slice none 0 0, .nilIface]) :
    Calls Yba.prog 13 #[.iface 57 (.pointer (some ⟨O, 0, none⟩)), .int .i64 0, .agg #[.int .u64 key, .int .u64 op, .int .u32 og, .int .i64 os, .bool jn, .int .u64 fp, .int .u32 fg, .int .i64 fs, .int .u64 at_], fnOf anil E] W
      fun e w' => e = .returned (.int .u64 want) ∧ DoneW E O I ends anil [.int .u64 key, .int .u64 op, .int .u32 og, .int .i64 os, .bool jn, .int .u64 fp, .int .u32 fg, .int .i64 fs, .int .u64 at_] (.int .u64 want) mm ia key [.int .u64 op, .int .u32 og, .int .i64 os] W w' := by
  have HA : Hid (Apart E O I W) := ha
  have mn := m_next
  have ml := m_learn
  have n1 := neq1
  have n1n := neq1n
  have HS0 : Hid (Stt E O I [.int .u64 key, .int .u64 op, .int .u32 og, .int .i64 os, .bool jn, .int .u64 fp, .int .u32 fg, .int .i64 fs, .int .u64 at_] 0 [] (.int .u64 want) (.slice none 0 0) (.slice none 0 0) mm ia (.slice none 0 0) key W (W.alloc (.cells #[.int .u64 key, .int .u64 op, .int .u32 og, .int .i64 os, .bool jn, .int .u64 fp, .int .u32 fg, .int .i64 fs, .int .u64 at_] 55)) (.slice none 0 0)) :=
    ⟨hE.alloc _, World.ownsRow_nil _ _ _ _, hO.alloc _, hI.alloc _, .inl rfl, .inl rfl, ⟨rfl, rfl, rfl, by simp, fun k hk _ _ _ => Below.heap_alloc _ _ _ hk⟩, RowAt.new W 55 _, by simp [Value.ownBlock]⟩
  clear hE hO hI ha
  have HEN : Hid ((want == at_) = ends) := hends
  cases ends <;> cases anil
  · clear HEN
    go_enter Yba.func13, Yba.ntmps13
    go_wp2_with (first
      | (go_at_call 16; refine (inscope_whole _ _).mono ?_; rintro e w1 ⟨rfl, rfl⟩)
      | (go_at_call 60; refine (HS0.out.callNextO HA.out (by decide)).mono ?_; rintro e w2 ⟨rfl, v2, g, cap, h2⟩; have HS2 : Hid (Stt E O I [.int .u64 key, .int .u64 op, .int .u32 og, .int .i64 os, .bool jn, .int .u64 fp, .int .u32 fg, .int .i64 fs, .int .u64 at_] 1 [.int .u8 110] (.int .u64 want) (.slice (some ⟨g, 0, none⟩) 1 cap) (.slice none 0 0) mm ia (.slice none 0 0) key W w2 v2) := h2; clear h2; have y8 : w2.cell? ⟨W.heap.size, 8, none⟩ = some (.int .u64 at_) := HS2.out.2.2.2.2.2.2.2.1.cell 8))
    go_ret
    exact ⟨rfl, v2, g, cap, _, HS2.out, rfl⟩
  · clear HEN
    go_enter Yba.func13, Yba.ntmps13
    go_wp2_with (first
      | (go_at_call 16; refine (inscope_whole _ _).mono ?_; rintro e w1 ⟨rfl, rfl⟩)
      | (go_at_call 60; refine (HS0.out.callNextO HA.out (by decide)).mono ?_; rintro e w2 ⟨rfl, v2, g, cap, h2⟩; have HS2 : Hid (Stt E O I [.int .u64 key, .int .u64 op, .int .u32 og, .int .i64 os, .bool jn, .int .u64 fp, .int .u32 fg, .int .i64 fs, .int .u64 at_] 1 [.int .u8 110] (.int .u64 want) (.slice (some ⟨g, 0, none⟩) 1 cap) (.slice none 0 0) mm ia (.slice none 0 0) key W w2 v2) := h2; clear h2; have y8 : w2.cell? ⟨W.heap.size, 8, none⟩ = some (.int .u64 at_) := HS2.out.2.2.2.2.2.2.2.1.cell 8))
    go_ret
    exact ⟨rfl, v2, g, cap, _, HS2.out, rfl⟩
  · clear HEN
    rw [show fnOf false E = .func (.func 12) #[] #[.pointer (some ⟨E, 0, none⟩)] from rfl]
    go_enter Yba.func13, Yba.ntmps13
    go_wp2_with (first
      | (go_at_call 16; refine (inscope_whole _ _).mono ?_; rintro e w1 ⟨rfl, rfl⟩)
      | (go_at_call 60; refine (HS0.out.callNextO HA.out (by decide)).mono ?_; rintro e w2 ⟨rfl, v2, g, cap, h2⟩; have HS2 : Hid (Stt E O I [.int .u64 key, .int .u64 op, .int .u32 og, .int .i64 os, .bool jn, .int .u64 fp, .int .u32 fg, .int .i64 fs, .int .u64 at_] 1 [.int .u8 110] (.int .u64 want) (.slice (some ⟨g, 0, none⟩) 1 cap) (.slice none 0 0) mm ia (.slice none 0 0) key W w2 v2) := h2; clear h2; have y8 : w2.cell? ⟨W.heap.size, 8, none⟩ = some (.int .u64 at_) := HS2.out.2.2.2.2.2.2.2.1.cell 8)
      | (go_at_call 12; refine (HS2.out.callAnswer HA.out (by decide)).mono ?_; rintro e w3 ⟨rfl, v3, h3⟩; have HS3 : Hid (Stt E O I [.int .u64 key, .int .u64 op, .int .u32 og, .int .i64 os, .bool jn, .int .u64 fp, .int .u32 fg, .int .i64 fs, .int .u64 at_] 2 [.int .u8 110, .int .u8 97] (.int .u64 want) (.slice (some ⟨g, 0, none⟩) 1 cap) (.slice none 0 0) mm ia (.slice none 0 0) key W w3 v3) := h3; clear h3; have y1 : w3.cell? ⟨W.heap.size, 1, none⟩ = some (.int .u64 op) := HS3.out.2.2.2.2.2.2.2.1.cell 1; have y2 : w3.cell? ⟨W.heap.size, 2, none⟩ = some (.int .u32 og) := HS3.out.2.2.2.2.2.2.2.1.cell 2; have y3 : w3.cell? ⟨W.heap.size, 3, none⟩ = some (.int .i64 os) := HS3.out.2.2.2.2.2.2.2.1.cell 3)
      | (go_at_call 58; refine (HS3.out.callLearn HA.out (by decide)).mono ?_; rintro e w4 ⟨rfl, v4, lo, h4, hlo⟩; have HS4 : Hid (Stt E O I [.int .u64 key, .int .u64 op, .int .u32 og, .int .i64 os, .bool jn, .int .u64 fp, .int .u32 fg, .int .i64 fs, .int .u64 at_] 3 [.int .u8 110, .int .u8 97, .int .u8 108] (.int .u64 want) (.slice (some ⟨g, 0, none⟩) 1 cap) lo mm ia (.slice none 0 0) key W w4 v4) := h4; have HLO : Hid (LoV true w4 lo [.int .u64 op, .int .u32 og, .int .i64 os]) := hlo; clear h4 hlo))
    go_ret
    exact ⟨rfl, v4, g, cap, lo, HS4.out, HLO.out⟩
  · clear HEN
    rw [show fnOf true E = .nilFunc from rfl]
    go_enter Yba.func13, Yba.ntmps13
    go_wp2_with (first
      | (go_at_call 16; refine (inscope_whole _ _).mono ?_; rintro e w1 ⟨rfl, rfl⟩)
      | (go_at_call 60; refine (HS0.out.callNextO HA.out (by decide)).mono ?_; rintro e w2 ⟨rfl, v2, g, cap, h2⟩; have HS2 : Hid (Stt E O I [.int .u64 key, .int .u64 op, .int .u32 og, .int .i64 os, .bool jn, .int .u64 fp, .int .u32 fg, .int .i64 fs, .int .u64 at_] 1 [.int .u8 110] (.int .u64 want) (.slice (some ⟨g, 0, none⟩) 1 cap) (.slice none 0 0) mm ia (.slice none 0 0) key W w2 v2) := h2; clear h2; have y8 : w2.cell? ⟨W.heap.size, 8, none⟩ = some (.int .u64 at_) := HS2.out.2.2.2.2.2.2.2.1.cell 8; have y1 : w2.cell? ⟨W.heap.size, 1, none⟩ = some (.int .u64 op) := HS2.out.2.2.2.2.2.2.2.1.cell 1; have y2 : w2.cell? ⟨W.heap.size, 2, none⟩ = some (.int .u32 og) := HS2.out.2.2.2.2.2.2.2.1.cell 2; have y3 : w2.cell? ⟨W.heap.size, 3, none⟩ = some (.int .i64 os) := HS2.out.2.2.2.2.2.2.2.1.cell 3)
      | (go_at_call 58; refine (HS2.out.callLearn HA.out (by decide)).mono ?_; rintro e w4 ⟨rfl, v4, lo, h4, hlo⟩; have HS4 : Hid (Stt E O I [.int .u64 key, .int .u64 op, .int .u32 og, .int .i64 os, .bool jn, .int .u64 fp, .int .u32 fg, .int .i64 fs, .int .u64 at_] 2 [.int .u8 110, .int .u8 108] (.int .u64 want) (.slice (some ⟨g, 0, none⟩) 1 cap) lo mm ia (.slice none 0 0) key W w4 v4) := h4; have HLO : Hid (LoV true w4 lo [.int .u64 op, .int .u32 og, .int .i64 os]) := hlo; clear h4 hlo))
    go_ret
    exact ⟨rfl, v4, g, cap, lo, HS4.out, HLO.out⟩

set_option maxRecDepth 100000 in
set_option maxHeartbeats 1600000 in
theorem reroute_sub (O I M E : Nat) (sc want at_ key op og os fp fg fs : Int) (jn ends anil : Bool) (oa ww : Value) (W : World) (hsc : sc ≠ 0) (hends : (want == at_) = ends) (ha : Apart E O I W) (hME : M ≠ E)
    (hE : RowAt W E 42 [.slice none 0 0]) (hO : RowAt W O 64 [oa, .pointer (some ⟨E, 0, none⟩), .slice none 0 0, .slice none 0 0, .iface 65 (.pointer (some ⟨M, 0, none⟩))]) (hI : RowAt W I 64 [.int .u64 want, .pointer (some ⟨E, 0, none⟩), .slice none 0 0, .slice none 0 0, .nilIface])
    (hM : RowAt W M 69 [.pointer (some ⟨E, 0, none⟩), .iface 57 (.pointer (some ⟨I, 0, none⟩)), ww]) :
    Calls Yba.prog 13 #[.iface 57 (.pointer (some ⟨O, 0, none⟩)), .int .i64 sc, .agg #[.int .u64 key, .int .u64 op, .int .u32 og, .int .i64 os, .bool jn, .int .u64 fp, .int .u32 fg, .int .i64 fs, .int .u64 at_], fnOf anil E] W
      fun e w' => e = .returned (.int .u64 want) ∧ DoneS E O I ends anil [.int .u64 key, .int .u64 op, .int .u32 og, .int .i64 os, .bool jn, .int .u64 fp, .int .u32 fg, .int .i64 fs, .int .u64 at_] oa (.iface 65 (.pointer (some ⟨M, 0, none⟩))) (.int .u64 want) key [.int .u64 op, .int .u32 og, .int .i64 os] W w' := by
  have HA : Hid (Apart E O I W) := ha
  have mn := m_next
  have ml := m_learn
  have n1 := neq1
  have n1n := neq1n
  have hMl : M < W.heap.size := hM.lt
  have HM : Hid (RowAt W M 69 [.pointer (some ⟨E, 0, none⟩), .iface 57 (.pointer (some ⟨I, 0, none⟩)), ww]) := hM
  have HS0 : Hid (Stt E O I [.int .u64 key, .int .u64 op, .int .u32 og, .int .i64 os, .bool jn, .int .u64 fp, .int .u32 fg, .int .i64 fs, .int .u64 at_] 0 [] oa (.slice none 0 0) (.slice none 0 0) (.iface 65 (.pointer (some ⟨M, 0, none⟩))) (.int .u64 want) (.slice none 0 0) key W (W.alloc (.cells #[.int .u64 key, .int .u64 op, .int .u32 og, .int .i64 os, .bool jn, .int .u64 fp, .int .u32 fg, .int .i64 fs, .int .u64 at_] 55)) (.slice none 0 0)) :=
    ⟨hE.alloc _, World.ownsRow_nil _ _ _ _, hO.alloc _, hI.alloc _, .inl rfl, .inl rfl, ⟨rfl, rfl, rfl, by simp, fun k hk _ _ _ => Below.heap_alloc _ _ _ hk⟩, RowAt.new W 55 _, by simp [Value.ownBlock]⟩
  clear hE hO hI ha hM
  have HEN : Hid ((want == at_) = ends) := hends
  cases ends <;> cases anil
  · clear HEN
    go_enter Yba.func13, Yba.ntmps13
    go_wp2_with (first
      | (go_at_call 16; refine (HS0.out.callScope HA.out (by decide) hsc (HM.out.alloc _) hMl hME).mono ?_; rintro e w1 ⟨rfl, v1, h1⟩; have HS1 : Hid (Stt E O I [.int .u64 key, .int .u64 op, .int .u32 og, .int .i64 os, .bool jn, .int .u64 fp, .int .u32 fg, .int .i64 fs, .int .u64 at_] 2 [.int .u8 109, .int .u8 103] oa (.slice none 0 0) (.slice none 0 0) (.iface 65 (.pointer (some ⟨M, 0, none⟩))) (.int .u64 want) (.slice none 0 0) key W w1 v1) := h1; clear h1; have y0 : w1.cell? ⟨W.heap.size, 0, none⟩ = some (.int .u64 key) := HS1.out.2.2.2.2.2.2.2.1.cell 0)
      | (go_at_call 60; refine (HS1.out.callNextI HA.out (by decide)).mono ?_; rintro e w2 ⟨rfl, v2, g, cap, h2⟩; have HS2 : Hid (Stt E O I [.int .u64 key, .int .u64 op, .int .u32 og, .int .i64 os, .bool jn, .int .u64 fp, .int .u32 fg, .int .i64 fs, .int .u64 at_] 3 [.int .u8 109, .int .u8 103, .int .u8 110] oa (.slice none 0 0) (.slice none 0 0) (.iface 65 (.pointer (some ⟨M, 0, none⟩))) (.int .u64 want) (.slice (some ⟨g, 0, none⟩) 1 cap) key W w2 v2) := h2; clear h2; have y8 : w2.cell? ⟨W.heap.size, 8, none⟩ = some (.int .u64 at_) := HS2.out.2.2.2.2.2.2.2.1.cell 8))
    go_ret
    exact ⟨rfl, v2, g, cap, _, HS2.out, rfl⟩
  · clear HEN
    go_enter Yba.func13, Yba.ntmps13
    go_wp2_with (first
      | (go_at_call 16; refine (HS0.out.callScope HA.out (by decide) hsc (HM.out.alloc _) hMl hME).mono ?_; rintro e w1 ⟨rfl, v1, h1⟩; have HS1 : Hid (Stt E O I [.int .u64 key, .int .u64 op, .int .u32 og, .int .i64 os, .bool jn, .int .u64 fp, .int .u32 fg, .int .i64 fs, .int .u64 at_] 2 [.int .u8 109, .int .u8 103] oa (.slice none 0 0) (.slice none 0 0) (.iface 65 (.pointer (some ⟨M, 0, none⟩))) (.int .u64 want) (.slice none 0 0) key W w1 v1) := h1; clear h1; have y0 : w1.cell? ⟨W.heap.size, 0, none⟩ = some (.int .u64 key) := HS1.out.2.2.2.2.2.2.2.1.cell 0)
      | (go_at_call 60; refine (HS1.out.callNextI HA.out (by decide)).mono ?_; rintro e w2 ⟨rfl, v2, g, cap, h2⟩; have HS2 : Hid (Stt E O I [.int .u64 key, .int .u64 op, .int .u32 og, .int .i64 os, .bool jn, .int .u64 fp, .int .u32 fg, .int .i64 fs, .int .u64 at_] 3 [.int .u8 109, .int .u8 103, .int .u8 110] oa (.slice none 0 0) (.slice none 0 0) (.iface 65 (.pointer (some ⟨M, 0, none⟩))) (.int .u64 want) (.slice (some ⟨g, 0, none⟩) 1 cap) key W w2 v2) := h2; clear h2; have y8 : w2.cell? ⟨W.heap.size, 8, none⟩ = some (.int .u64 at_) := HS2.out.2.2.2.2.2.2.2.1.cell 8))
    go_ret
    exact ⟨rfl, v2, g, cap, _, HS2.out, rfl⟩
  · clear HEN
    rw [show fnOf false E = .func (.func 12) #[] #[.pointer (some ⟨E, 0, none⟩)] from rfl]
    go_enter Yba.func13, Yba.ntmps13
    go_wp2_with (first
      | (go_at_call 16; refine (HS0.out.callScope HA.out (by decide) hsc (HM.out.alloc _) hMl hME).mono ?_; rintro e w1 ⟨rfl, v1, h1⟩; have HS1 : Hid (Stt E O I [.int .u64 key, .int .u64 op, .int .u32 og, .int .i64 os, .bool jn, .int .u64 fp, .int .u32 fg, .int .i64 fs, .int .u64 at_] 2 [.int .u8 109, .int .u8 103] oa (.slice none 0 0) (.slice none 0 0) (.iface 65 (.pointer (some ⟨M, 0, none⟩))) (.int .u64 want) (.slice none 0 0) key W w1 v1) := h1; clear h1; have y0 : w1.cell? ⟨W.heap.size, 0, none⟩ = some (.int .u64 key) := HS1.out.2.2.2.2.2.2.2.1.cell 0)
      | (go_at_call 60; refine (HS1.out.callNextI HA.out (by decide)).mono ?_; rintro e w2 ⟨rfl, v2, g, cap, h2⟩; have HS2 : Hid (Stt E O I [.int .u64 key, .int .u64 op, .int .u32 og, .int .i64 os, .bool jn, .int .u64 fp, .int .u32 fg, .int .i64 fs, .int .u64 at_] 3 [.int .u8 109, .int .u8 103, .int .u8 110] oa (.slice none 0 0) (.slice none 0 0) (.iface 65 (.pointer (some ⟨M, 0, none⟩))) (.int .u64 want) (.slice (some ⟨g, 0, none⟩) 1 cap) key W w2 v2) := h2; clear h2; have y8 : w2.cell? ⟨W.heap.size, 8, none⟩ = some (.int .u64 at_) := HS2.out.2.2.2.2.2.2.2.1.cell 8)
      | (go_at_call 12; refine (HS2.out.callAnswer HA.out (by decide)).mono ?_; rintro e w3 ⟨rfl, v3, h3⟩; have HS3 : Hid (Stt E O I [.int .u64 key, .int .u64 op, .int .u32 og, .int .i64 os, .bool jn, .int .u64 fp, .int .u32 fg, .int .i64 fs, .int .u64 at_] 4 [.int .u8 109, .int .u8 103, .int .u8 110, .int .u8 97] oa (.slice none 0 0) (.slice none 0 0) (.iface 65 (.pointer (some ⟨M, 0, none⟩))) (.int .u64 want) (.slice (some ⟨g, 0, none⟩) 1 cap) key W w3 v3) := h3; clear h3; have y1 : w3.cell? ⟨W.heap.size, 1, none⟩ = some (.int .u64 op) := HS3.out.2.2.2.2.2.2.2.1.cell 1; have y2 : w3.cell? ⟨W.heap.size, 2, none⟩ = some (.int .u32 og) := HS3.out.2.2.2.2.2.2.2.1.cell 2; have y3 : w3.cell? ⟨W.heap.size, 3, none⟩ = some (.int .i64 os) := HS3.out.2.2.2.2.2.2.2.1.cell 3)
      | (go_at_call 58; refine (HS3.out.callLearn HA.out (by decide)).mono ?_; rintro e w4 ⟨rfl, v4, lo, h4, hlo⟩; have HS4 : Hid (Stt E O I [.int .u64 key, .int .u64 op, .int .u32 og, .int .i64 os, .bool jn, .int .u64 fp, .int .u32 fg, .int .i64 fs, .int .u64 at_] 5 [.int .u8 109, .int .u8 103, .int .u8 110, .int .u8 97, .int .u8 108] oa (.slice none 0 0) lo (.iface 65 (.pointer (some ⟨M, 0, none⟩))) (.int .u64 want) (.slice (some ⟨g, 0, none⟩) 1 cap) key W w4 v4) := h4; have HLO : Hid (LoV true w4 lo [.int .u64 op, .int .u32 og, .int .i64 os]) := hlo; clear h4 hlo))
    go_ret
    exact ⟨rfl, v4, g, cap, lo, HS4.out, HLO.out⟩
  · clear HEN
    rw [show fnOf true E = .nilFunc from rfl]
    go_enter Yba.func13, Yba.ntmps13
    go_wp2_with (first
      | (go_at_call 16; refine (HS0.out.callScope HA.out (by decide) hsc (HM.out.alloc _) hMl hME).mono ?_; rintro e w1 ⟨rfl, v1, h1⟩; have HS1 : Hid (Stt E O I [.int .u64 key, .int .u64 op, .int .u32 og, .int .i64 os, .bool jn, .int .u64 fp, .int .u32 fg, .int .i64 fs, .int .u64 at_] 2 [.int .u8 109, .int .u8 103] oa (.slice none 0 0) (.slice none 0 0) (.iface 65 (.pointer (some ⟨M, 0, none⟩))) (.int .u64 want) (.slice none 0 0) key W w1 v1) := h1; clear h1; have y0 : w1.cell? ⟨W.heap.size, 0, none⟩ = some (.int .u64 key) := HS1.out.2.2.2.2.2.2.2.1.cell 0)
      | (go_at_call 60; refine (HS1.out.callNextI HA.out (by decide)).mono ?_; rintro e w2 ⟨rfl, v2, g, cap, h2⟩; have HS2 : Hid (Stt E O I [.int .u64 key, .int .u64 op, .int .u32 og, .int .i64 os, .bool jn, .int .u64 fp, .int .u32 fg, .int .i64 fs, .int .u64 at_] 3 [.int .u8 109, .int .u8 103, .int .u8 110] oa (.slice none 0 0) (.slice none 0 0) (.iface 65 (.pointer (some ⟨M, 0, none⟩))) (.int .u64 want) (.slice (some ⟨g, 0, none⟩) 1 cap) key W w2 v2) := h2; clear h2; have y8 : w2.cell? ⟨W.heap.size, 8, none⟩ = some (.int .u64 at_) := HS2.out.2.2.2.2.2.2.2.1.cell 8; have y1 : w2.cell? ⟨W.heap.size, 1, none⟩ = some (.int .u64 op) := HS2.out.2.2.2.2.2.2.2.1.cell 1; have y2 : w2.cell? ⟨W.heap.size, 2, none⟩ = some (.int .u32 og) := HS2.out.2.2.2.2.2.2.2.1.cell 2; have y3 : w2.cell? ⟨W.heap.size, 3, none⟩ = some (.int .i64 os) := HS2.out.2.2.2.2.2.2.2.1.cell 3)
      | (go_at_call 58; refine (HS2.out.callLearn HA.out (by decide)).mono ?_; rintro e w4 ⟨rfl, v4, lo, h4, hlo⟩; have HS4 : Hid (Stt E O I [.int .u64 key, .int .u64 op, .int .u32 og, .int .i64 os, .bool jn, .int .u64 fp, .int .u32 fg, .int .i64 fs, .int .u64 at_] 4 [.int .u8 109, .int .u8 103, .int .u8 110, .int .u8 108] oa (.slice none 0 0) lo (.iface 65 (.pointer (some ⟨M, 0, none⟩))) (.int .u64 want) (.slice (some ⟨g, 0, none⟩) 1 cap) key W w4 v4) := h4; have HLO : Hid (LoV true w4 lo [.int .u64 op, .int .u32 og, .int .i64 os]) := hlo; clear h4 hlo))
    go_ret
    exact ⟨rfl, v4, g, cap, lo, HS4.out, HLO.out⟩
end Go.Proofs.Ybulkebck
