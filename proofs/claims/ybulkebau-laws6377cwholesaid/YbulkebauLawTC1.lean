import Derived.Test.YbulkebauLawC1
namespace Go.Proofs.Ybulkebau
open Go.RowKit
set_option linter.unusedVariables false

set_option maxRecDepth 100000 in
set_option maxHeartbeats 3200000 in
theorem lawC_TC1 (oa a1 a5 : Option Addr) (N oc n1 c1 n5 c5 : Nat) (ht qg fl : Bool) (exp tr qs : Int) (ad : ByteArray) (ka : Nat → Option Addr) (kn kc : Nat → Nat) (l : Nat → List UInt8) (sa : Nat → ByteArray) (l1 : List UInt8) (ss : Nat → ByteArray) (w : World)
    (had : ad.size ≤ 1048576) (hN : N ≤ 1048576) (hn1 : n1 ≤ 1048576) (hn5 : n5 ≤ 1048576) (hn5' : 1 ≤ n5) (hq : qs ≠ 64) (h : (N : Int) + (n1 : Int) + (ad.size : Int) + (n5 : Int) ≤ 1048576) (htr : 0 ≤ tr) (htr' : tr < 18446744073709551616)
    (hout : Out w oa N ka kn kc l sa) (hkey : Sl w a1 n1 c1 (bts l1)) (hl1 : n1 = l1.length) (hadr : Sl w a5 n5 c5 (sts n5 ss)) :
    Calls Yba.prog 5 #[.slice oa N oc, .slice a1 n1 c1, .bool true, .int .u64 exp, .string ad, .slice a5 n5 c5, .int .u64 tr, .bool qg, .int .i64 qs, .bool false] w fun e w' => e = .returned (.bool true) ∧ Below w.heap.size w w' := by
  have HOut : Hid (Out w oa N ka kn kc l sa) := hout
  have HKey : Hid (Sl w a1 n1 c1 (bts l1)) := hkey
  have HL1 : Hid (n1 = l1.length) := hl1
  have HAdr : Hid (Sl w a5 n5 c5 (sts n5 ss)) := hadr
  have HQ : Hid (qs ≠ 64) := hq
  have hq0 : (qs == 64) = false := beq_eq_false_iff_ne.2 hq
  clear hout hkey hl1 hadr hq
  have hd0 : decide ((1048576 : Int) < (N : Int) + (n1 : Int) + (ad.size : Int) + (n5 : Int)) = false := decide_eq_false (by omega)
  go_enter Yba.func5, Yba.ntmps5
  go_wp2_with fail
  go_loopw [21, 22] (fun tt i wr => ∃ (k q : Nat) (T : Int), k ≤ N ∧ i = .int .i64 k ∧ tt = .int .i64 T ∧ wr = w.drewN q) (fun _ i _ => N - (intOf i).toNat)
  case atStart => exact ⟨0, 0, _, Nat.zero_le _, rfl, rfl, rfl⟩
  case round =>
    obtain ⟨k, q, T, hk, rfl, rfl, rfl⟩ := hrel
    by_cases hlt : k < N
    · obtain ⟨b, o, rfl, hb, y0, y1, h5, h6, h7, _⟩ := HOut.out k hlt
      obtain ⟨kk, hkk⟩ : ∃ kk, kk = kn k := ⟨_, rfl⟩
      rw [← hkk] at y0 h6
      have hi : (k : Int) < (N : Int) := by omega
      clear h5 hkk
      go_wp2
      go_quiet (fail)
      go_wp2
      go_roundw
      case rel => exact ⟨k + 1, _, _, by omega, by go_num, rfl, rfl⟩
      case measure => simp [intOf]; omega
    · obtain rfl : N = k := by omega
      clear hlt hk
      go_wp2_with fail
      go_loopw [21, 23] (fun tt i wr => ∃ (k : Nat) (T : Int), k ≤ n5 ∧ i = .int .i64 k ∧ tt = .int .i64 T ∧ wr = w.drewN q) (fun _ i _ => n5 - (intOf i).toNat)
      case atStart => exact ⟨0, _, Nat.zero_le _, rfl, rfl, rfl⟩
      case round =>
        obtain ⟨k, T, hk, rfl, rfl, rfl⟩ := hrel
        by_cases hlt : k < n5
        · obtain ⟨b, o, rfl, hb, y0⟩ := HAdr.out.2.2.2 k (.string (ss k)) (by simp [hlt])
          have hi : (k : Int) < (n5 : Int) := by omega
          go_wp2
          go_roundw
          case rel => exact ⟨k + 1, _, by omega, by go_num, rfl, trivial⟩
          case measure => simp [intOf]; omega
        · obtain rfl : n5 = k := by omega
          clear hlt hk
          by_cases hT : 1048576 < T
          · have hd : decide (1048576 < T) = true := decide_eq_true hT
            go_wp2
            go_ret
            exact ⟨rfl, below_drewN (Below.refl _ _) q⟩
          · have hd : decide (1048576 < T) = false := decide_eq_false hT
            clear hT
            obtain ⟨W0, hW0⟩ : ∃ W0, W0 = w.drewN q := ⟨_, rfl⟩
            rw [← hW0]
            have HB0 : Hid (Below w.heap.size w W0) := show Below w.heap.size w W0 by rw [hW0]; exact below_drewN (Below.refl _ _) q
            clear hW0
            have hz : ((n5 : Int) == 0) = false := beq_eq_false_iff_ne.2 (by omega)
            obtain ⟨t, ht'⟩ : ∃ t : Nat, tr % (n5 : Int) = (t : Int) := ⟨(tr % (n5 : Int)).toNat, by have := Int.emod_nonneg tr (b := (n5 : Int)) (by omega); omega⟩
            have htm : t < n5 := by have := Int.emod_lt_of_pos tr (b := (n5 : Int)) (by omega); omega
            have hmk := make72 N (by omega)
            go_wp2_with (first
              | (go_at_call 12; first
                | (refine (clone12 a5 n5 c5 _ W0 (HAdr.out.kept HB0.out) hn5).mono ?_; rintro e w1 ⟨a24, c24, rfl, hcl⟩; have HC1 : Hid (Cl W0 n5 (sts n5 ss) a24 c24 w1) := hcl; clear hcl)
                | (refine (clone12 a24 n5 c24 _ w1 HC1.out.2.1 hn5).mono ?_; rintro e w2 ⟨a26, c26, rfl, hcl⟩; have HC2 : Hid (Cl w1 n5 (sts n5 ss) a26 c26 w2) := hcl; clear hcl; have HB2 : Hid (Below w.heap.size w w2) := (HB0.out.trans (HC1.out.1.mono HB0.out.size)).trans (HC2.out.1.mono (Nat.le_trans HB0.out.size HC1.out.1.size))))
              | (go_at_call 13; refine (clone13 a1 n1 c1 _ _ (HKey.out.kept (HB2.out.alloc HB2.out.size _)) (by omega)).mono ?_; rintro e w3 ⟨a28, c28, rfl, hcl⟩; have HC3 : Hid (Cl (w2.alloc (.cells #[.slice none 0 0, .int .u64 exp, .slice none 0 0, .slice none 0 0] 44)) n1 (bts l1) a28 c28 w3) := hcl; clear hcl))
            have HF3 : Hid (Fx w w3 a24 n5 c24 a26 c26 (sts n5 ss) a28 n1 c28 (bts l1) (some ⟨w2.heap.size, 0, none⟩) exp) := fx_tok HB0.out HC1.out HC2.out HC3.out
            obtain ⟨tk, htk⟩ : ∃ tk, tk = (some ⟨w2.heap.size, 0, none⟩ : Option Addr) := ⟨_, rfl⟩
            obtain ⟨P, hP⟩ : ∃ P, P = w3.heap.size := ⟨_, rfl⟩
            obtain ⟨W5, hW5⟩ : ∃ W5, W5 = ((w3.alloc (.cells #[.slice a28 n1 c28, .pointer tk, .string ad, .slice a24 n5 c24, .int .i64 t, .bool qg] 63)).alloc (.cells (srch qs) 71)).alloc (.cells (madeCells #[.slice none 0 0, .pointer none, .string ⟨#[]⟩] (N * 3)) 61) := ⟨_, rfl⟩
            rw [← htk] at HF3
            have HBx : Hid (Bx w P N qs a24 n5 c24 a26 c26 (sts n5 ss) a28 n1 c28 (bts l1) tk exp ad t qg W5) := show Bx w P N qs a24 n5 c24 a26 c26 (sts n5 ss) a28 n1 c28 (bts l1) tk exp ad t qg W5 by rw [hW5]; exact bx_mk hP HF3.out
            have HM0 : Hid (MadeK (P + 1 + 1) N 0 kn l sa W5 W5) := show MadeK (P + 1 + 1) N 0 kn l sa W5 W5 by rw [hW5]; exact MadeK.start (by rw [hP]; simp)
            have hW5' : W5 = ((w3.alloc (.cells #[.slice a28 n1 c28, .pointer (some ⟨w2.heap.size, 0, none⟩), .string ad, .slice a24 n5 c24, .int .i64 t, .bool qg] 63)).alloc (.cells #[.int .u8 0, .int .u8 0, .int .u8 0, .int .u8 0, .int .u8 0, .int .u8 0, .int .u8 0, .int .u8 0, .int .u8 0, .int .u8 0, .int .u8 0, .int .u8 0, .int .u8 0, .int .u8 0, .int .u8 0, .int .u8 0, .int .u8 0, .int .u8 0, .int .u8 0, .int .u8 0, .int .u8 0, .int .u8 0, .int .u8 0, .int .u8 0, .int .u8 0, .int .u8 0, .int .u8 0, .int .u8 0, .int .u8 0, .int .u8 0, .int .u8 0, .int .u8 0, .nilIface, .pointer none, .map none, .int .i64 qs, .int .i64 0] 71)).alloc (.cells (madeCells #[.slice none 0 0, .pointer none, .string ⟨#[]⟩] (N * 3)) 61) := by rw [hW5, htk]; rfl
            rw [← hW5', ← hP, ← htk]
            have HPq : Hid (P = w3.heap.size) := hP
            have H35 : Hid (Below w3.heap.size w3 W5) := show Below w3.heap.size w3 W5 by rw [hW5]; exact (((Below.refl _ _).alloc (Nat.le_refl _) _).alloc (by simp) _).alloc (by simp; omega) _
            have HTK : Hid (∃ tb, tk = some ⟨tb, 0, none⟩) := ⟨_, htk⟩
            clear hW5 hW5' hP htk HC1 HC2 HC3 HB2 HB0 hmk hz
            go_loopw [33] (fun i wr => ∃ k : Nat, k ≤ N ∧ i = .int .i64 k ∧ MadeK (P + 1 + 1) N k kn l sa W5 wr) (fun i _ => N - (intOf i).toNat)
            case atStart => exact ⟨0, Nat.zero_le _, rfl, HM0.out⟩
            case round =>
              obtain ⟨k, hk, rfl, hmk⟩ := hrel
              have HMk : Hid (MadeK (P + 1 + 1) N k kn l sa W5 wr) := hmk
              have HBr : Hid (Below w.heap.size w wr) := by obtain ⟨_, _, _, _, hb⟩ := hmk; exact HBx.out.fx.bel.trans (hb.mono (by have := HBx.out.le; omega))
              clear hmk
              by_cases hlt : k < N
              · obtain ⟨b, o, rfl, hb, y0, y1, h5, h6, h7, h8⟩ := (HOut.out.kept HBr.out) k hlt
                have hbw : b < w.heap.size := by obtain ⟨b', o', e, hb', _⟩ := HOut.out k hlt; injection e with e; injection e with e; omega
                obtain ⟨kk, hkk⟩ : ∃ kk, kk = kn k := ⟨_, rfl⟩
                have HS8 : Hid (Sl wr.drew (ka k) kk (kc k) (bts (l k))) := by rw [hkk]; exact h8
                have HKK : Hid (kk = kn k) := hkk
                rw [← hkk] at y0 h6
                obtain ⟨cs, hr, hcl', _, _⟩ := HMk.out
                have hrl := hr.lt
                obtain ⟨u0, hu0⟩ : ∃ u, cs[k * 3]? = some u := ⟨_, List.getElem?_eq_getElem (by omega)⟩
                obtain ⟨u1, hu1⟩ : ∃ u, cs[k * 3 + 1]? = some u := ⟨_, List.getElem?_eq_getElem (by omega)⟩
                obtain ⟨u2, hu2⟩ : ∃ u, cs[k * 3 + 2]? = some u := ⟨_, List.getElem?_eq_getElem (by omega)⟩
                have HR : Hid (RowAt wr.drew (P + 1 + 1) 61 cs ∧ cs[k * 3]? = some u0 ∧ cs[k * 3 + 1]? = some u1 ∧ cs[k * 3 + 2]? = some u2) := ⟨hr, hu0, hu1, hu2⟩
                have hi : (k : Int) < (N : Int) := by omega
                have hbP : b < P := Nat.lt_of_lt_of_le hbw HBx.out.le
                have hbO : b ≠ P + 1 + 1 := by omega
                clear h5 h8 hkk hr hu0 hu1 hu2 hcl'
                go_wp2_with fail
                go_region_held3 (fun X => X.cell? ⟨b, o + k * 2, none⟩ = some (.slice (ka k) kk (kc k)) ∧ X.cell? ⟨b, o + k * 2 + 1, none⟩ = some (.string (sa k)))
                  (first | exact ⟨y0, y1⟩ | exact ⟨z0, z1⟩ | exact ⟨(far3 hbO).trans z0, (far3 hbO).trans z1⟩)
                  (first | (go_at_call 13; refine (clone13 _ kk _ _ _ HS8.out h6).mono ?_; rintro e w6 ⟨ak, ck, rfl, hcl⟩; have z0 := (hcl.1.cell (p := ⟨b, o + k * 2, none⟩) hb).trans y0; have z1 := (hcl.1.cell (p := ⟨b, o + k * 2 + 1, none⟩) hb).trans y1; have hr6 := HR.out.1.kept hcl.1 hrl; have g0 := (hr6.cell (k * 3)).trans HR.out.2.1; have g1 := (hr6.cell (k * 3 + 1)).trans HR.out.2.2.1; have g2 := (hr6.cell (k * 3 + 2)).trans HR.out.2.2.2; have f0 := hr6.free (k * 3); have f1 := hr6.free (k * 3 + 1); have f2 := hr6.free (k * 3 + 2); have HCl : Hid (Cl wr.drew kk (bts (l k)) ak ck w6) := hcl; clear hcl hr6))
                all_goals
                  go_wp2
                  go_roundw
                  case rel => exact ⟨k + 1, by omega, by go_num, HMk.out.step (X0 := wr.drew) hlt HKK.out rfl HCl.out rfl rfl rfl⟩
                  case measure => simp [intOf]; omega
              · obtain rfl : N = k := by omega
                clear hlt hk
                rename World => w6
                obtain ⟨cs, h36, he6⟩ := e6_mk HPq.out HF3.out H35.out HBx.out HMk.out
                have HE5 : Hid (E6 w P N qs a24 n5 c24 a26 c26 (sts n5 ss) a28 n1 c28 (bts l1) tk exp ad t qg kn l sa cs w6) := he6
                have H36 : Hid (Below w3.heap.size w3 w6) := h36
                have HTS : Hid ((sts n5 ss)[t]? = some (.string (ss t))) := show (sts n5 ss)[t]? = some (.string (ss t)) by simp [htm]
                clear he6 h36 HMk HBx HM0 H35
                go_wp2_with (go_at_call 14; refine (try_e6 HPq.out HF3.out H36.out HE5.out hn5 hN htm HTS.out HQ.out).mono ?_; rintro e w7 ⟨g, gc, rfl, he, hg⟩; have HE6 : Hid (E6 w P N (wrap64 (qs + 1)) a24 n5 c24 a26 c26 (sts n5 ss) a28 n1 c28 (bts l1) tk exp ad (t + 1) true kn l sa cs w7) := he; have HG : Hid (GotAt g (cs ++ [.slice a28 n1 c28, .pointer tk, .string (ss t)]) w7) := hg; clear he hg)
                clear HPq HF3 H36 HE5
                go_loopw [35] (fun i wr => ∃ k : Nat, k ≤ N ∧ i = .int .i64 k ∧ Below w7.heap.size w7 wr) (fun i _ => N - (intOf i).toNat)
                case atStart => exact ⟨0, Nat.zero_le _, rfl, Below.refl _ _⟩
                case round =>
                  obtain ⟨k, hk, rfl, hbr⟩ := hrel
                  have HBk : Hid (Below w7.heap.size w7 wr) := hbr
                  have HEk : Hid (E6 w P N (wrap64 (qs + 1)) a24 n5 c24 a26 c26 (sts n5 ss) a28 n1 c28 (bts l1) tk exp ad (t + 1) true kn l sa cs wr) := HE6.out.kept hbr
                  clear hbr
                  by_cases hlt : k < N
                  · obtain ⟨b, o, rfl, hb, y0, y1, h5, h6, h7, h8⟩ := (HOut.out.kept HEk.out.fx.bel) k hlt
                    obtain ⟨ak, ck, e0, e1, e2, e3, _⟩ := HEk.out.cks k hlt
                    obtain ⟨kk, hkk⟩ : ∃ kk, kk = kn k := ⟨_, rfl⟩
                    have HL : Hid (kk = (l k).length) := hkk.trans h5
                    have HS1 : Hid (Sl wr.drew ak kk ck (bts (l k))) := by rw [hkk]; exact e3
                    have HS2 : Hid (Sl wr.drew (ka k) kk (kc k) (bts (l k))) := by rw [hkk]; exact h8
                    rw [← hkk] at y0 h6 e0
                    have o0 := (HEk.out.o.cell (k * 3)).trans e0
                    have o1 := (HEk.out.o.cell (k * 3 + 1)).trans e1
                    have o2 := (HEk.out.o.cell (k * 3 + 2)).trans e2
                    have hOl := HEk.out.o.lt
                    have hi : (k : Int) < (N : Int) := by omega
                    clear h5 h8 hkk e0 e1 e2 e3
                    go_wp2_with fail
                    go_region_held3 (fun X => X.cell? ⟨P + 1 + 1, k * 3, none⟩ = some (.slice ak kk ck) ∧ X.cell? ⟨P + 1 + 1, k * 3 + 1, none⟩ = some (.pointer none) ∧ X.cell? ⟨P + 1 + 1, k * 3 + 2, none⟩ = some (.string (sa k)) ∧ X.cell? ⟨b, o + k * 2, none⟩ = some (.slice (ka k) kk (kc k)) ∧ X.cell? ⟨b, o + k * 2 + 1, none⟩ = some (.string (sa k)))
                      (first | exact ⟨o0, o1, o2, y0, y1⟩ | exact ⟨z0, z1, z2, z3, z4⟩)
                      (first | (go_at_call 15; refine (zz15 ak (ka k) none kk ck (kc k) (l k) (sa k) _ HL.out HS1.out HS2.out).mono ?_; rintro e w8 ⟨rfl, hw8⟩; have hb8 : Below wr.heap.size wr w8 := (by rw [hw8]; exact (Below.refl wr.heap.size wr).drew.alloc (Nat.le_refl _) _); have HB8 : Hid (Below w7.heap.size w7 w8) := HBk.out.trans (hb8.mono HBk.out.size); have z0 := (hb8.cell (p := ⟨P + 1 + 1, k * 3, none⟩) hOl).trans o0; have z1 := (hb8.cell (p := ⟨P + 1 + 1, k * 3 + 1, none⟩) hOl).trans o1; have z2 := (hb8.cell (p := ⟨P + 1 + 1, k * 3 + 2, none⟩) hOl).trans o2; have z3 := (hb8.cell (p := ⟨b, o + k * 2, none⟩) hb).trans y0; have z4 := (hb8.cell (p := ⟨b, o + k * 2 + 1, none⟩) hb).trans y1; clear hw8 hb8))
                    all_goals
                      go_wp2
                      go_roundw
                      case rel => exact ⟨k + 1, by omega, by go_num, HB8.out⟩
                      case measure => simp [intOf]; omega
                  · obtain rfl : N = k := by omega
                    clear hlt hk
                    obtain ⟨tb, rfl⟩ := HTK.out
                    have p0 : wr.cell? ⟨P, 0, none⟩ = some (.slice a28 n1 c28) := HEk.out.p.cell 0
                    have p1 : wr.cell? ⟨P, 1, none⟩ = some (.pointer (some ⟨tb, 0, none⟩)) := HEk.out.p.cell 1
                    have p2 : wr.cell? ⟨P, 2, none⟩ = some (.string ad) := HEk.out.p.cell 2
                    have n28 := n28
                    have n28s := n28s
                    have n69 := n69
                    have n68 := n68
                    have n67 := n67
                    go_wp2_with (first
                      | (go_at_call 15; refine (zz15 a28 a1 _ n1 c28 c1 l1 ad _ HL1.out HEk.out.fx.s28 (HKey.out.kept HEk.out.fx.bel)).mono ?_; rintro e w8 ⟨rfl, hw8⟩; have HB8 : Hid (Below w7.heap.size w7 w8) := (show Below w7.heap.size w7 w8 by rw [hw8]; exact HBk.out.alloc HBk.out.size _); have HE8 : Hid (E6 w P N (wrap64 (qs + 1)) a24 n5 c24 a26 c26 (sts n5 ss) a28 n1 c28 (bts l1) (some ⟨tb, 0, none⟩) exp ad (t + 1) true kn l sa cs w8) := HE6.out.kept HB8.out; have z1 : w8.cell? ⟨P, 1, none⟩ = some (.pointer (some ⟨tb, 0, none⟩)) := HE8.out.p.cell 1; have z3 : w8.cell? ⟨P, 3, none⟩ = some (.slice a24 n5 c24) := HE8.out.p.cell 3; have zt : w8.cell? ⟨tb, 1, none⟩ = some (.int .u64 exp) := HE8.out.fx.tok.some; clear hw8)
                      | (go_at_call 16; refine (equal16 a24 a26 n5 c24 c26 ss _ hn5 HE8.out.fx.s24 HE8.out.fx.s26).mono ?_; rintro e w9 ⟨rfl, q9, hw9⟩; have HB9 : Hid (Below w7.heap.size w7 w9) := (show Below w7.heap.size w7 w9 by rw [hw9]; exact below_drewN HB8.out q9); have HE9 : Hid (E6 w P N (wrap64 (qs + 1)) a24 n5 c24 a26 c26 (sts n5 ss) a28 n1 c28 (bts l1) (some ⟨tb, 0, none⟩) exp ad (t + 1) true kn l sa cs w9) := HE6.out.kept HB9.out; have HG9 : Hid (GotAt g (cs ++ [.slice a28 n1 c28, .pointer (some ⟨tb, 0, none⟩), .string (ss t)]) w9) := HG.out.kept HB9.out; have y36 : w9.cell? ⟨P + 1, 36, none⟩ = some (.int .i64 0) := HE9.out.s.cell 36; have y34 : w9.cell? ⟨P + 1, 34, none⟩ = some (.map none) := HE9.out.s.cell 34; have y33 : w9.cell? ⟨P + 1, 33, none⟩ = some (.pointer none) := HE9.out.s.cell 33; have y32 : w9.cell? ⟨P + 1, 32, none⟩ = some .nilIface := HE9.out.s.cell 32; clear hw9))
                    go_loopw [37] (fun i wr => ∃ k : Nat, k ≤ N ∧ i = .int .i64 k ∧ Below w9.heap.size w9 wr) (fun i _ => N - (intOf i).toNat)
                    case atStart => exact ⟨0, Nat.zero_le _, rfl, Below.refl _ _⟩
                    case round =>
                      obtain ⟨k, hk, rfl, hbr⟩ := hrel
                      have HBk : Hid (Below w9.heap.size w9 wr) := hbr
                      have HEk : Hid (E6 w P N (wrap64 (qs + 1)) a24 n5 c24 a26 c26 (sts n5 ss) a28 n1 c28 (bts l1) (some ⟨tb, 0, none⟩) exp ad (t + 1) true kn l sa cs wr) := HE9.out.kept hbr
                      clear hbr
                      by_cases hlt : k < N
                      · obtain ⟨b, o, rfl, hb, y0, y1, h5, h6, h7, h8⟩ := (HOut.out.kept HEk.out.fx.bel) k hlt
                        obtain ⟨ak, ck, e0, e1, e2, e3, _⟩ := HEk.out.cks k hlt
                        obtain ⟨kk, hkk⟩ : ∃ kk, kk = kn k := ⟨_, rfl⟩
                        have HL : Hid (kk = (l k).length) := hkk.trans h5
                        have HS1 : Hid (Sl wr.drew ak kk ck (bts (l k))) := by rw [hkk]; exact e3
                        have HS2 : Hid (Sl wr.drew (ka k) kk (kc k) (bts (l k))) := by rw [hkk]; exact h8
                        rw [← hkk] at y0 h6 e0
                        have hGk := HG9.out.kept HBk.out
                        have o0 := hGk.old e0
                        have o1 := hGk.old e1
                        have o2 := hGk.old e2
                        have hOl := hGk.1
                        have hi : (k : Int) < (N : Int) := by omega
                        have hi1 : (k : Int) < (N : Int) + 1 := by omega
                        clear h5 h8 hkk e0 e1 e2 e3 hGk
                        go_wp2_with fail
                        go_region_held3 (fun X => X.cell? ⟨g, k * 3, none⟩ = some (.slice ak kk ck) ∧ X.cell? ⟨g, k * 3 + 1, none⟩ = some (.pointer none) ∧ X.cell? ⟨g, k * 3 + 2, none⟩ = some (.string (sa k)) ∧ X.cell? ⟨b, o + k * 2, none⟩ = some (.slice (ka k) kk (kc k)) ∧ X.cell? ⟨b, o + k * 2 + 1, none⟩ = some (.string (sa k)))
                          (first | exact ⟨o0, o1, o2, y0, y1⟩ | exact ⟨z0, z1, z2, z3, z4⟩)
                          (first | (go_at_call 15; refine (zz15 ak (ka k) none kk ck (kc k) (l k) (sa k) _ HL.out HS1.out HS2.out).mono ?_; rintro e w8 ⟨rfl, hw8⟩; have hb8 : Below wr.heap.size wr w8 := (by rw [hw8]; exact (Below.refl wr.heap.size wr).drew.alloc (Nat.le_refl _) _); have HB8 : Hid (Below w9.heap.size w9 w8) := HBk.out.trans (hb8.mono HBk.out.size); have z0 := (hb8.cell (p := ⟨g, k * 3, none⟩) hOl).trans o0; have z1 := (hb8.cell (p := ⟨g, k * 3 + 1, none⟩) hOl).trans o1; have z2 := (hb8.cell (p := ⟨g, k * 3 + 2, none⟩) hOl).trans o2; have z3 := (hb8.cell (p := ⟨b, o + k * 2, none⟩) hb).trans y0; have z4 := (hb8.cell (p := ⟨b, o + k * 2 + 1, none⟩) hb).trans y1; clear hw8 hb8))
                        all_goals
                          go_wp2
                          go_roundw
                          case rel => exact ⟨k + 1, by omega, by go_num, HB8.out⟩
                          case measure => simp [intOf]; omega
                      · obtain rfl : N = k := by omega
                        clear hlt hk
                        have hGk := HG9.out.kept HBk.out
                        have o0 : wr.cell? ⟨g, N * 3, none⟩ = some (.slice a28 n1 c28) := hGk.new HEk.out.len (j := 0) rfl
                        have o1 : wr.cell? ⟨g, N * 3 + 1, none⟩ = some (.pointer (some ⟨tb, 0, none⟩)) := hGk.new HEk.out.len (j := 1) rfl
                        have o2 : wr.cell? ⟨g, N * 3 + 2, none⟩ = some (.string (ss t)) := hGk.new HEk.out.len (j := 2) rfl
                        have hOl := hGk.1
                        obtain ⟨b, o, rfl, hb, v26⟩ := HEk.out.fx.s26.2.2.2 t (.string (ss t)) (by simp [htm])
                        have y0 : wr.cell? ⟨b, o + t, none⟩ = some (.string (ss t)) := v26
                        have hi : (t : Int) < (n5 : Int) := by omega
                        have HZ1 : Hid (Sl wr.drew a28 n1 c28 (bts l1)) := HEk.out.fx.s28
                        have hz2 := HKey.out.kept HEk.out.fx.bel
                        have HZ2 : Hid (Sl wr.drew a1 n1 c1 (bts l1)) := hz2
                        have hi1 : (N : Int) < (N : Int) + 1 := by omega
                        clear hGk v26 hz2
                        go_wp2_with fail
                        go_region_held3 (fun X => X.cell? ⟨g, N * 3, none⟩ = some (.slice a28 n1 c28) ∧ X.cell? ⟨g, N * 3 + 1, none⟩ = some (.pointer (some ⟨tb, 0, none⟩)) ∧ X.cell? ⟨g, N * 3 + 2, none⟩ = some (.string (ss t)) ∧ X.cell? ⟨b, o + t, none⟩ = some (.string (ss t)))
                          (first | exact ⟨o0, o1, o2, y0⟩ | exact ⟨z0, z1, z2, z3⟩)
                          (first | (go_at_call 15; refine (zz15 a28 a1 _ n1 c28 c1 l1 (ss t) _ HL1.out HZ1.out HZ2.out).mono ?_; rintro e w8 ⟨rfl, hw8⟩; have hb8 : Below wr.heap.size wr w8 := (by rw [hw8]; exact (Below.refl wr.heap.size wr).drew.alloc (Nat.le_refl _) _); have HE8' : Hid (E6 w P N (wrap64 (qs + 1)) a24 n5 c24 (some ⟨b, o, none⟩) c26 (sts n5 ss) a28 n1 c28 (bts l1) (some ⟨tb, 0, none⟩) exp ad (t + 1) true kn l sa cs w8) := HEk.out.kept hb8; have z0 := (hb8.cell (p := ⟨g, N * 3, none⟩) hOl).trans o0; have z1 := (hb8.cell (p := ⟨g, N * 3 + 1, none⟩) hOl).trans o1; have z2 := (hb8.cell (p := ⟨g, N * 3 + 2, none⟩) hOl).trans o2; have z3 := (hb8.cell (p := ⟨b, o + t, none⟩) hb).trans y0; clear hw8 hb8))
                        all_goals
                          have x4 : w8.cell? ⟨P, 4, none⟩ = some (.int .i64 ((t : Int) + 1)) := HE8'.out.p.cell 4
                          have x5 : w8.cell? ⟨P, 5, none⟩ = some (.bool true) := HE8'.out.p.cell 5
                          have x35 : w8.cell? ⟨P + 1, 35, none⟩ = some (.int .i64 (wrap64 (qs + 1))) := HE8'.out.s.cell 35
                          go_wp2
                          go_ret
                          exact ⟨by simp, HE8'.out.fx.bel⟩
end Go.Proofs.Ybulkebau
