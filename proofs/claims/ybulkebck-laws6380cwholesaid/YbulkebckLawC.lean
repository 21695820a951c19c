import Derived.Test.YbulkebckLawCl
namespace Go.Proofs.Ybulkebck
open Go.RowKit
set_option linter.unusedVariables false

set_option maxRecDepth 100000 in
set_option maxHeartbeats 3200000 in
theorem lawC_whole (key op og os fp fg fs at_ ans mode : Int) (jn hit anil : Bool) (w : World) (hm : 0 ≤ mode) (hm' : mode < 256) :
    Calls Yba.prog 5 #[.int .i64 0, .agg #[.int .u64 key, .int .u64 op, .int .u32 og, .int .i64 os, .bool jn, .int .u64 fp, .int .u32 fg, .int .i64 fs, .int .u64 at_], .int .u64 ans, .bool hit, .int .u8 mode, .bool anil] w
      fun e w' => e = .returned (.bool true) ∧ Below w.heap.size w w' := by
  obtain ⟨i0, hi, hz0, hz1, hz2⟩ := info_parts Yba.info5
  have e30 := eql30
  have g30 := guard30
  go_enter Yba.func5, Yba.ntmps5
  go_upto_if 49 with fail
  obtain ⟨want, hwant⟩ : ∃ want : Int, want = if hit then at_ else ans := ⟨_, rfl⟩
  have HW : Hid (want = if hit then at_ else ans) := hwant
  clear hwant
  obtain ⟨W1, hW1⟩ : ∃ W1, W1 = (w.alloc (.cells #[.int .u64 key, .int .u64 op, .int .u32 og, .int .i64 os, .bool jn, .int .u64 fp, .int .u32 fg, .int .i64 fs, .int .u64 at_] 53)).alloc (.cells #[.int .u64 key, .int .u64 op, .int .u32 og, .int .i64 os, .bool jn, .int .u64 fp, .int .u32 fg, .int .i64 fs, .int .u64 at_] 55) := ⟨_, rfl⟩
  rw [← hW1]
  have hs1 : W1.heap.size = w.heap.size + 2 := by rw [hW1]; simp
  have HH1 : Hid (RowAt W1 (w.heap.size + 1) 55 [.int .u64 key, .int .u64 op, .int .u32 og, .int .i64 os, .bool jn, .int .u64 fp, .int .u32 fg, .int .i64 fs, .int .u64 at_]) := show RowAt W1 (w.heap.size + 1) 55 [.int .u64 key, .int .u64 op, .int .u32 og, .int .i64 os, .bool jn, .int .u64 fp, .int .u32 fg, .int .i64 fs, .int .u64 at_] by
    rw [hW1]
    have := RowAt.new (w.alloc (.cells #[.int .u64 key, .int .u64 op, .int .u32 og, .int .i64 os, .bool jn, .int .u64 fp, .int .u32 fg, .int .i64 fs, .int .u64 at_] 53)) 55 #[.int .u64 key, .int .u64 op, .int .u32 og, .int .i64 os, .bool jn, .int .u64 fp, .int .u32 fg, .int .i64 fs, .int .u64 at_]
    rw [World.size_alloc] at this
    exact this
  have HBl1 : Hid (Below w.heap.size w W1) := show Below w.heap.size w W1 by
    rw [hW1]
    exact ((Below.refl _ _).alloc (Nat.le_refl _) _).alloc (by simp) _
  have z8 : W1.cell? ⟨w.heap.size + 1, 8, none⟩ = some (.int .u64 at_) := HH1.out.cell 8
  have HS1 : Hid (W1.heap.size = w.heap.size + 2) := hs1
  clear hW1 hs1
  go_cut [14] (fun s wx => s = .int .u64 want ∧ W1 = wx)
  case first =>
    cases hit
    · obtain rfl : want = ans := HW.out
      go_wp2
      go_meet
      exact ⟨rfl, rfl⟩
    · obtain rfl : want = at_ := HW.out
      go_wp2
      go_meet
      exact ⟨rfl, rfl⟩
  case rest =>
  obtain ⟨rfl, rfl⟩ := hcut
  clear HW z8
  go_upto_if 82 with fail
  go_cut [] (fun wx => Hid (Rdy false W1.heap.size w (.int .u64 want) (.int .u64 (IntKind.u64.wrap (want + 1))) [.int .u64 key, .int .u64 op, .int .u32 og, .int .i64 os, .bool jn, .int .u64 fp, .int .u32 fg, .int .i64 fs, .int .u64 at_] wx))
  case first =>
    have h3 : mode % 3 = 0 ∨ mode % 3 = 1 ∨ mode % 3 = 2 := by omega
    rcases h3 with h3 | h3 | h3
    · go_wp2
      go_meet
      exact rdy3 HH1.out HBl1.out HS1.out
    · go_wp2
      go_meet
      exact rdy4 HH1.out HBl1.out HS1.out (fun h => by cases h)
    · go_wp2
      go_meet
      exact rdy4 HH1.out HBl1.out HS1.out (fun h => by cases h)
  case rest =>
  obtain ⟨E, hE⟩ : ∃ E, E = W1.heap.size := ⟨_, rfl⟩
  rw [← hE]
  rw [← hE] at hcut
  have hEw : w.heap.size + 1 < E := by have := HS1.out; omega
  clear hE HS1 HH1 HBl1
  obtain ⟨mm, ww, r1, r2, r3, r4, r5, r6⟩ := hcut.out
  have HR2 : Hid (RowAt wc E 42 [.slice none 0 0] ∧ RowAt wc (E + 1) 64 [(.int .u64 want), .pointer (some ⟨E, 0, none⟩), .slice none 0 0, .slice none 0 0, mm] ∧ RowAt wc (E + 1 + 1) 64 [(.int .u64 (IntKind.u64.wrap (want + 1))), .pointer (some ⟨E, 0, none⟩), .slice none 0 0, .slice none 0 0, .nilIface]) := ⟨r1, r2, r3⟩
  have HHop : Hid (RowAt wc (w.heap.size + 1) 55 [.int .u64 key, .int .u64 op, .int .u32 og, .int .i64 os, .bool jn, .int .u64 fp, .int .u32 fg, .int .i64 fs, .int .u64 at_]) := r5
  have HBl : Hid (Below w.heap.size w wc) := r6
  have HAp : Hid (Apart E (E + 1) (E + 1 + 1) wc) := ⟨r1.lt, r2.lt, r3.lt, by omega, by omega, by omega⟩
  have k0 : wc.cell? ⟨w.heap.size + 1, 0, none⟩ = some (.int .u64 key) := r5.cell 0
  have k1 : wc.cell? ⟨w.heap.size + 1, 1, none⟩ = some (.int .u64 op) := r5.cell 1
  have k2 : wc.cell? ⟨w.heap.size + 1, 2, none⟩ = some (.int .u32 og) := r5.cell 2
  have k3 : wc.cell? ⟨w.heap.size + 1, 3, none⟩ = some (.int .i64 os) := r5.cell 3
  have k4 : wc.cell? ⟨w.heap.size + 1, 4, none⟩ = some (.bool jn) := r5.cell 4
  have k5 : wc.cell? ⟨w.heap.size + 1, 5, none⟩ = some (.int .u64 fp) := r5.cell 5
  have k6 : wc.cell? ⟨w.heap.size + 1, 6, none⟩ = some (.int .u32 fg) := r5.cell 6
  have k7 : wc.cell? ⟨w.heap.size + 1, 7, none⟩ = some (.int .i64 fs) := r5.cell 7
  have k8 : wc.cell? ⟨w.heap.size + 1, 8, none⟩ = some (.int .u64 at_) := r5.cell 8
  clear r1 r2 r3 r4 r5 r6 hcut
  have hmf : ∀ (fn : Fn) (first cap : Array Value) (w : World), (Instr.makeFunc fn first cap).run Yba.prog w = .ok (.func fn first cap) w := fun _ _ _ _ => rfl
  obtain ⟨ends, hends⟩ : ∃ ends, (want == at_) = ends := ⟨_, rfl⟩
  cases ends <;> cases anil
  · go_wp2_with (first
      | (go_at_call 13; refine (reroute_whole (E + 1) (E + 1 + 1) E want at_ key op og os fp fg fs jn false false _ _ wc hends HAp.out HR2.out.1 HR2.out.2.1 HR2.out.2.2).mono ?_; rintro e w5 ⟨rfl, v5, g, cap, lo, hst5, hlo5⟩; have HST : Hid (Stt E (E + 1) (E + 1 + 1) [.int .u64 key, .int .u64 op, .int .u32 og, .int .i64 os, .bool jn, .int .u64 fp, .int .u32 fg, .int .i64 fs, .int .u64 at_] 1 [.int .u8 110] (.int .u64 want) (.slice (some ⟨g, 0, none⟩) 1 cap) lo mm (.int .u64 (IntKind.u64.wrap (want + 1))) (.slice none 0 0) key wc w5 v5) := hst5; have HLO : Hid (LoV false w5 lo [.int .u64 op, .int .u32 og, .int .i64 os]) := hlo5; clear hst5 hlo5; have HH5 : Hid (RowAt w5 (w.heap.size + 1) 55 [.int .u64 key, .int .u64 op, .int .u32 og, .int .i64 os, .bool jn, .int .u64 fp, .int .u32 fg, .int .i64 fs, .int .u64 at_]) := hop_kept HST.out HHop.out (by omega) (by omega) (by omega); have y8 : w5.cell? ⟨w.heap.size + 1, 8, none⟩ = some (.int .u64 at_) := HH5.out.cell 8)
      | (at_builtin; refine wpList_append_lies _ rfl (.tmp 114) (.tmp 115) 42 rfl w5.heap.size 5 i0 _ 1 1 Yba.underlying42 hi hz0 hz1 hz2 rfl (by decide) _ 0 [] rfl (World.ownsRow_nil _ _ _ _) ⟨w5.heap.size, 0, none⟩ 1 1 [.int .u8 110] rfl rfl (news_row _ #[.int .u8 110] _) (by simp [Value.oneCell']) (by decide) (by unfold maxLen; omega) (by omega) (by simp) _ rfl ?_; intro g6 c6 w6 hown hgrow hat hlt; have HB6 : Hid (Below w5.heap.size w5 w6) := bel_app (Below.refl _ _) (World.ownsRow_nil _ _ _ _) hgrow; have HO6 : Hid (w6.ownsRow w5.heap.size 5 1 (.slice (some ⟨g6, 0, none⟩) 1 c6) 1 [.int .u8 110]) := hown; clear hown hgrow hat hlt; obtain ⟨x1, x2, x3, x4, x5, x6⟩ := fin_at HST.out HB6.out; have cv1 := conv_owned (l := [110]) (by decide) x2; have cv2 := conv_owned (l := [110]) (by decide) HO6.out; have e0 : w6.cell? ⟨E, 0, none⟩ = some v5 := x1.cell 0; have o2 : w6.cell? ⟨E + 1, 2, none⟩ = some (.slice (some ⟨g, 0, none⟩) 1 cap) := x3.cell 2; have o3 : w6.cell? ⟨E + 1, 3, none⟩ = some lo := x3.cell 3; have j2 : w6.cell? ⟨E + 1 + 1, 2, none⟩ = some (.slice none 0 0) := x4.cell 2; have j3 : w6.cell? ⟨E + 1 + 1, 3, none⟩ = some (.slice none 0 0) := x4.cell 3; have nk : w6.cell? ⟨g, 0, none⟩ = some (.int .u64 key) := x5.cell; have hh := HH5.out.kept HB6.out HH5.out.lt; have z0 : w6.cell? ⟨w.heap.size + 1, 0, none⟩ = some (.int .u64 key) := hh.cell 0; have z1 : w6.cell? ⟨w.heap.size + 1, 1, none⟩ = some (.int .u64 op) := hh.cell 1; have z2 : w6.cell? ⟨w.heap.size + 1, 2, none⟩ = some (.int .u32 og) := hh.cell 2; have z3 : w6.cell? ⟨w.heap.size + 1, 3, none⟩ = some (.int .i64 os) := hh.cell 3; have z8 : w6.cell? ⟨w.heap.size + 1, 8, none⟩ = some (.int .u64 at_) := hh.cell 8; have HBF : Hid (Below w.heap.size w w6) := below_fin HBl.out HST.out (by omega) (by omega) (by omega) HB6.out; clear x1 x2 x3 x4 x5 x6 hh; have hlo : lo = .slice none 0 0 := HLO.out; rw [hlo] at o3; clear hlo))
    go_quiet (fail)
    go_wp2
    go_ret
    exact ⟨rfl, by repeat (first | exact HBF.out | refine below_drewN ?_ _)⟩
  · go_wp2_with (first
      | (go_at_call 13; refine (reroute_whole (E + 1) (E + 1 + 1) E want at_ key op og os fp fg fs jn false true _ _ wc hends HAp.out HR2.out.1 HR2.out.2.1 HR2.out.2.2).mono ?_; rintro e w5 ⟨rfl, v5, g, cap, lo, hst5, hlo5⟩; have HST : Hid (Stt E (E + 1) (E + 1 + 1) [.int .u64 key, .int .u64 op, .int .u32 og, .int .i64 os, .bool jn, .int .u64 fp, .int .u32 fg, .int .i64 fs, .int .u64 at_] 1 [.int .u8 110] (.int .u64 want) (.slice (some ⟨g, 0, none⟩) 1 cap) lo mm (.int .u64 (IntKind.u64.wrap (want + 1))) (.slice none 0 0) key wc w5 v5) := hst5; have HLO : Hid (LoV false w5 lo [.int .u64 op, .int .u32 og, .int .i64 os]) := hlo5; clear hst5 hlo5; have HH5 : Hid (RowAt w5 (w.heap.size + 1) 55 [.int .u64 key, .int .u64 op, .int .u32 og, .int .i64 os, .bool jn, .int .u64 fp, .int .u32 fg, .int .i64 fs, .int .u64 at_]) := hop_kept HST.out HHop.out (by omega) (by omega) (by omega); have y8 : w5.cell? ⟨w.heap.size + 1, 8, none⟩ = some (.int .u64 at_) := HH5.out.cell 8)
      | (at_builtin; refine wpList_append_lies _ rfl (.tmp 114) (.tmp 115) 42 rfl w5.heap.size 5 i0 _ 1 1 Yba.underlying42 hi hz0 hz1 hz2 rfl (by decide) _ 0 [] rfl (World.ownsRow_nil _ _ _ _) ⟨w5.heap.size, 0, none⟩ 1 1 [.int .u8 110] rfl rfl (news_row _ #[.int .u8 110] _) (by simp [Value.oneCell']) (by decide) (by unfold maxLen; omega) (by omega) (by simp) _ rfl ?_; intro g6 c6 w6 hown hgrow hat hlt; have HB6 : Hid (Below w5.heap.size w5 w6) := bel_app (Below.refl _ _) (World.ownsRow_nil _ _ _ _) hgrow; have HO6 : Hid (w6.ownsRow w5.heap.size 5 1 (.slice (some ⟨g6, 0, none⟩) 1 c6) 1 [.int .u8 110]) := hown; clear hown hgrow hat hlt; obtain ⟨x1, x2, x3, x4, x5, x6⟩ := fin_at HST.out HB6.out; have cv1 := conv_owned (l := [110]) (by decide) x2; have cv2 := conv_owned (l := [110]) (by decide) HO6.out; have e0 : w6.cell? ⟨E, 0, none⟩ = some v5 := x1.cell 0; have o2 : w6.cell? ⟨E + 1, 2, none⟩ = some (.slice (some ⟨g, 0, none⟩) 1 cap) := x3.cell 2; have o3 : w6.cell? ⟨E + 1, 3, none⟩ = some lo := x3.cell 3; have j2 : w6.cell? ⟨E + 1 + 1, 2, none⟩ = some (.slice none 0 0) := x4.cell 2; have j3 : w6.cell? ⟨E + 1 + 1, 3, none⟩ = some (.slice none 0 0) := x4.cell 3; have nk : w6.cell? ⟨g, 0, none⟩ = some (.int .u64 key) := x5.cell; have hh := HH5.out.kept HB6.out HH5.out.lt; have z0 : w6.cell? ⟨w.heap.size + 1, 0, none⟩ = some (.int .u64 key) := hh.cell 0; have z1 : w6.cell? ⟨w.heap.size + 1, 1, none⟩ = some (.int .u64 op) := hh.cell 1; have z2 : w6.cell? ⟨w.heap.size + 1, 2, none⟩ = some (.int .u32 og) := hh.cell 2; have z3 : w6.cell? ⟨w.heap.size + 1, 3, none⟩ = some (.int .i64 os) := hh.cell 3; have z8 : w6.cell? ⟨w.heap.size + 1, 8, none⟩ = some (.int .u64 at_) := hh.cell 8; have HBF : Hid (Below w.heap.size w w6) := below_fin HBl.out HST.out (by omega) (by omega) (by omega) HB6.out; clear x1 x2 x3 x4 x5 x6 hh; have hlo : lo = .slice none 0 0 := HLO.out; rw [hlo] at o3; clear hlo))
    go_quiet (fail)
    go_wp2
    go_ret
    exact ⟨rfl, by repeat (first | exact HBF.out | refine below_drewN ?_ _)⟩
  · go_wp2_with (first
      | (go_at_call 13; refine (reroute_whole (E + 1) (E + 1 + 1) E want at_ key op og os fp fg fs jn true false _ _ wc hends HAp.out HR2.out.1 HR2.out.2.1 HR2.out.2.2).mono ?_; rintro e w5 ⟨rfl, v5, g, cap, lo, hst5, hlo5⟩; have HST : Hid (Stt E (E + 1) (E + 1 + 1) [.int .u64 key, .int .u64 op, .int .u32 og, .int .i64 os, .bool jn, .int .u64 fp, .int .u32 fg, .int .i64 fs, .int .u64 at_] 3 [.int .u8 110, .int .u8 97, .int .u8 108] (.int .u64 want) (.slice (some ⟨g, 0, none⟩) 1 cap) lo mm (.int .u64 (IntKind.u64.wrap (want + 1))) (.slice none 0 0) key wc w5 v5) := hst5; have HLO : Hid (LoV true w5 lo [.int .u64 op, .int .u32 og, .int .i64 os]) := hlo5; clear hst5 hlo5; have HH5 : Hid (RowAt w5 (w.heap.size + 1) 55 [.int .u64 key, .int .u64 op, .int .u32 og, .int .i64 os, .bool jn, .int .u64 fp, .int .u32 fg, .int .i64 fs, .int .u64 at_]) := hop_kept HST.out HHop.out (by omega) (by omega) (by omega); have y8 : w5.cell? ⟨w.heap.size + 1, 8, none⟩ = some (.int .u64 at_) := HH5.out.cell 8)
      | (at_builtin; refine wpList_append_lies _ rfl (.tmp 114) (.tmp 115) 42 rfl w5.heap.size 5 i0 _ 1 1 Yba.underlying42 hi hz0 hz1 hz2 rfl (by decide) _ 0 [] rfl (World.ownsRow_nil _ _ _ _) ⟨w5.heap.size, 0, none⟩ 1 1 [.int .u8 110] rfl rfl (news_row _ #[.int .u8 110] _) (by simp [Value.oneCell']) (by decide) (by unfold maxLen; omega) (by omega) (by simp) _ rfl ?_; intro g6 c6 w6 hown hgrow hat hlt; have HB6 : Hid (Below w5.heap.size w5 w6) := bel_app (Below.refl _ _) (World.ownsRow_nil _ _ _ _) hgrow; have HO6 : Hid (w6.ownsRow w5.heap.size 5 1 (.slice (some ⟨g6, 0, none⟩) 1 c6) 1 [.int .u8 110]) := hown; clear hown hgrow hat hlt)
      | (at_builtin; refine wpList_append_lies _ rfl (.tmp 120) (.tmp 121) 42 rfl w5.heap.size 5 i0 _ 1 1 Yba.underlying42 hi hz0 hz1 hz2 rfl (by decide) _ 1 [.int .u8 110] rfl (HO6.out.alloc _) ⟨w6.heap.size, 0, none⟩ 1 1 [.int .u8 97] rfl rfl (news_row _ #[.int .u8 97] _) (by simp [Value.oneCell']) (by decide) (by unfold maxLen; omega) (by omega) (Nat.le_trans (HB6.out).size (by simp)) _ rfl ?_; intro g7 c7 w7 hown hgrow hat hlt; have HB7 : Hid (Below w5.heap.size w5 w7) := bel_app HB6.out HO6.out hgrow; have HO7 : Hid (w7.ownsRow w5.heap.size 5 1 (.slice (some ⟨g7, 0, none⟩) 2 c7) 2 [.int .u8 110, .int .u8 97]) := hown; clear hown hgrow hat hlt)
      | (at_builtin; refine wpList_append_lies _ rfl (.tmp 123) (.tmp 124) 42 rfl w5.heap.size 5 i0 _ 1 1 Yba.underlying42 hi hz0 hz1 hz2 rfl (by decide) _ 2 [.int .u8 110, .int .u8 97] rfl (HO7.out.alloc _) ⟨w7.heap.size, 0, none⟩ 1 1 [.int .u8 108] rfl rfl (news_row _ #[.int .u8 108] _) (by simp [Value.oneCell']) (by decide) (by unfold maxLen; omega) (by omega) (Nat.le_trans (HB7.out).size (by simp)) _ rfl ?_; intro g8 c8 w8 hown hgrow hat hlt; have HB8 : Hid (Below w5.heap.size w5 w8) := bel_app HB7.out HO7.out hgrow; have HO8 : Hid (w8.ownsRow w5.heap.size 5 1 (.slice (some ⟨g8, 0, none⟩) 3 c8) 3 [.int .u8 110, .int .u8 97, .int .u8 108]) := hown; clear hown hgrow hat hlt; obtain ⟨x1, x2, x3, x4, x5, x6⟩ := fin_at HST.out HB8.out; have cv1 := conv_owned (l := [110, 97, 108]) (by decide) x2; have cv2 := conv_owned (l := [110, 97, 108]) (by decide) HO8.out; have e0 : w8.cell? ⟨E, 0, none⟩ = some v5 := x1.cell 0; have o2 : w8.cell? ⟨E + 1, 2, none⟩ = some (.slice (some ⟨g, 0, none⟩) 1 cap) := x3.cell 2; have o3 : w8.cell? ⟨E + 1, 3, none⟩ = some lo := x3.cell 3; have j2 : w8.cell? ⟨E + 1 + 1, 2, none⟩ = some (.slice none 0 0) := x4.cell 2; have j3 : w8.cell? ⟨E + 1 + 1, 3, none⟩ = some (.slice none 0 0) := x4.cell 3; have nk : w8.cell? ⟨g, 0, none⟩ = some (.int .u64 key) := x5.cell; have hh := HH5.out.kept HB8.out HH5.out.lt; have z0 : w8.cell? ⟨w.heap.size + 1, 0, none⟩ = some (.int .u64 key) := hh.cell 0; have z1 : w8.cell? ⟨w.heap.size + 1, 1, none⟩ = some (.int .u64 op) := hh.cell 1; have z2 : w8.cell? ⟨w.heap.size + 1, 2, none⟩ = some (.int .u32 og) := hh.cell 2; have z3 : w8.cell? ⟨w.heap.size + 1, 3, none⟩ = some (.int .i64 os) := hh.cell 3; have z8 : w8.cell? ⟨w.heap.size + 1, 8, none⟩ = some (.int .u64 at_) := hh.cell 8; have HBF : Hid (Below w.heap.size w w8) := below_fin HBl.out HST.out (by omega) (by omega) (by omega) HB8.out; clear x1 x2 x3 x4 x5 x6 hh; obtain ⟨gl, cl, hlo, hcl⟩ := lov_kept HLO.out HB8.out; rw [hlo] at o3; have l0 : w8.cell? ⟨gl, 0, none⟩ = some (.int .u64 op) := hcl 0 _ rfl; have l1 : w8.cell? ⟨gl, 1, none⟩ = some (.int .u32 og) := hcl 1 _ rfl; have l2 : w8.cell? ⟨gl, 2, none⟩ = some (.int .i64 os) := hcl 2 _ rfl; clear hcl hlo))
    go_quiet (fail)
    go_wp2
    go_quiet (fail)
    go_wp2
    go_ret
    exact ⟨rfl, by repeat (first | exact HBF.out | refine below_drewN ?_ _)⟩
  · go_wp2_with (first
      | (go_at_call 13; refine (reroute_whole (E + 1) (E + 1 + 1) E want at_ key op og os fp fg fs jn true true _ _ wc hends HAp.out HR2.out.1 HR2.out.2.1 HR2.out.2.2).mono ?_; rintro e w5 ⟨rfl, v5, g, cap, lo, hst5, hlo5⟩; have HST : Hid (Stt E (E + 1) (E + 1 + 1) [.int .u64 key, .int .u64 op, .int .u32 og, .int .i64 os, .bool jn, .int .u64 fp, .int .u32 fg, .int .i64 fs, .int .u64 at_] 2 [.int .u8 110, .int .u8 108] (.int .u64 want) (.slice (some ⟨g, 0, none⟩) 1 cap) lo mm (.int .u64 (IntKind.u64.wrap (want + 1))) (.slice none 0 0) key wc w5 v5) := hst5; have HLO : Hid (LoV true w5 lo [.int .u64 op, .int .u32 og, .int .i64 os]) := hlo5; clear hst5 hlo5; have HH5 : Hid (RowAt w5 (w.heap.size + 1) 55 [.int .u64 key, .int .u64 op, .int .u32 og, .int .i64 os, .bool jn, .int .u64 fp, .int .u32 fg, .int .i64 fs, .int .u64 at_]) := hop_kept HST.out HHop.out (by omega) (by omega) (by omega); have y8 : w5.cell? ⟨w.heap.size + 1, 8, none⟩ = some (.int .u64 at_) := HH5.out.cell 8)
      | (at_builtin; refine wpList_append_lies _ rfl (.tmp 114) (.tmp 115) 42 rfl w5.heap.size 5 i0 _ 1 1 Yba.underlying42 hi hz0 hz1 hz2 rfl (by decide) _ 0 [] rfl (World.ownsRow_nil _ _ _ _) ⟨w5.heap.size, 0, none⟩ 1 1 [.int .u8 110] rfl rfl (news_row _ #[.int .u8 110] _) (by simp [Value.oneCell']) (by decide) (by unfold maxLen; omega) (by omega) (by simp) _ rfl ?_; intro g6 c6 w6 hown hgrow hat hlt; have HB6 : Hid (Below w5.heap.size w5 w6) := bel_app (Below.refl _ _) (World.ownsRow_nil _ _ _ _) hgrow; have HO6 : Hid (w6.ownsRow w5.heap.size 5 1 (.slice (some ⟨g6, 0, none⟩) 1 c6) 1 [.int .u8 110]) := hown; clear hown hgrow hat hlt)
      | (at_builtin; refine wpList_append_lies _ rfl (.tmp 123) (.tmp 124) 42 rfl w5.heap.size 5 i0 _ 1 1 Yba.underlying42 hi hz0 hz1 hz2 rfl (by decide) _ 1 [.int .u8 110] rfl (HO6.out.alloc _) ⟨w6.heap.size, 0, none⟩ 1 1 [.int .u8 108] rfl rfl (news_row _ #[.int .u8 108] _) (by simp [Value.oneCell']) (by decide) (by unfold maxLen; omega) (by omega) (Nat.le_trans (HB6.out).size (by simp)) _ rfl ?_; intro g7 c7 w7 hown hgrow hat hlt; have HB7 : Hid (Below w5.heap.size w5 w7) := bel_app HB6.out HO6.out hgrow; have HO7 : Hid (w7.ownsRow w5.heap.size 5 1 (.slice (some ⟨g7, 0, none⟩) 2 c7) 2 [.int .u8 110, .int .u8 108]) := hown; clear hown hgrow hat hlt; obtain ⟨x1, x2, x3, x4, x5, x6⟩ := fin_at HST.out HB7.out; have cv1 := conv_owned (l := [110, 108]) (by decide) x2; have cv2 := conv_owned (l := [110, 108]) (by decide) HO7.out; have e0 : w7.cell? ⟨E, 0, none⟩ = some v5 := x1.cell 0; have o2 : w7.cell? ⟨E + 1, 2, none⟩ = some (.slice (some ⟨g, 0, none⟩) 1 cap) := x3.cell 2; have o3 : w7.cell? ⟨E + 1, 3, none⟩ = some lo := x3.cell 3; have j2 : w7.cell? ⟨E + 1 + 1, 2, none⟩ = some (.slice none 0 0) := x4.cell 2; have j3 : w7.cell? ⟨E + 1 + 1, 3, none⟩ = some (.slice none 0 0) := x4.cell 3; have nk : w7.cell? ⟨g, 0, none⟩ = some (.int .u64 key) := x5.cell; have hh := HH5.out.kept HB7.out HH5.out.lt; have z0 : w7.cell? ⟨w.heap.size + 1, 0, none⟩ = some (.int .u64 key) := hh.cell 0; have z1 : w7.cell? ⟨w.heap.size + 1, 1, none⟩ = some (.int .u64 op) := hh.cell 1; have z2 : w7.cell? ⟨w.heap.size + 1, 2, none⟩ = some (.int .u32 og) := hh.cell 2; have z3 : w7.cell? ⟨w.heap.size + 1, 3, none⟩ = some (.int .i64 os) := hh.cell 3; have z8 : w7.cell? ⟨w.heap.size + 1, 8, none⟩ = some (.int .u64 at_) := hh.cell 8; have HBF : Hid (Below w.heap.size w w7) := below_fin HBl.out HST.out (by omega) (by omega) (by omega) HB7.out; clear x1 x2 x3 x4 x5 x6 hh; obtain ⟨gl, cl, hlo, hcl⟩ := lov_kept HLO.out HB7.out; rw [hlo] at o3; have l0 : w7.cell? ⟨gl, 0, none⟩ = some (.int .u64 op) := hcl 0 _ rfl; have l1 : w7.cell? ⟨gl, 1, none⟩ = some (.int .u32 og) := hcl 1 _ rfl; have l2 : w7.cell? ⟨gl, 2, none⟩ = some (.int .i64 os) := hcl 2 _ rfl; clear hcl hlo))
    go_quiet (fail)
    go_wp2
    go_quiet (fail)
    go_wp2
    go_ret
    exact ⟨rfl, by repeat (first | exact HBF.out | refine below_drewN ?_ _)⟩
end Go.Proofs.Ybulkebck
