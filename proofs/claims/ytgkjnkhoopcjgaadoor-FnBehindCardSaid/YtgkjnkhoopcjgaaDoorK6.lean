/- Part 6 of the proof: Wx4, Wx5, Wx6, Wv1, Wv2, Wy1, Wu0, Wu1, Wu2, Wu4, Wu3, Wy2a, Pc, Wy3, Wz1, Wz3. By program out of the working texts. Conditions: as each theorem says. -/
import Derived.Test.YtgkjnkhoopcjgaaDoorK5
import Derived.Test.YtgkjnkhoopcjgaaDoorRows
import Derived.ProofKit
import Derived.OpenShut
import Derived.LaidMore
import Derived.LaidLaws
import Derived.Lay
import Derived.Carry
import Derived.Stop.Joined
import Derived.Test.YtgkjnkhoopcjgaaDoorCards
import Derived.Test.YtgkjnkhoopcjgaaDoorTie
import Derived.SevenTiedAt
/- The reference's order of blocks and its table of names, of one small file. No condition. -/
namespace Go.Proofs.YtgkjnkhoopcjgaaDoor
open Go.Sx
set_option maxRecDepth 100000
set_option maxHeartbeats 1000000

theorem t3_size : Tryd.t3.size = 1 := by kernel_rfl
theorem t3_bytes : Tryd.t3.bytes ≤ 200 := by decide +kernel
theorem t9_size : Tryd.t9.size = 1 := by kernel_rfl
theorem t9_bytes : Tryd.t9.bytes ≤ 200 := by decide +kernel
theorem t5_byte2 : Tryd.t5.bytes ≤ 200 := by decide +kernel
theorem get27 {i : Int} {w : World} (hi : 0 ≤ i) : Calls Tryd.prog 27 #[.slice none 0 0, .int .i64 i] w fun en w' => en = .returned (.int .i64 0) ∧ Same w w' := by
 refine begins E0 Tryd.func27 rfl Tryd.ntmps27 rfl [(0, _), (1, _)] ⟨rfl, rfl, trivial⟩ [] trivial List.nodup_nil ?_
 refine scR ?_
 refine sqA rfl rfl ?_
 refine sqK [0, 1] rfl ?_
 refine sc_seq ?_
 refine scR ?_
 iterate 2 refine sqM rfl rfl ?_
 refine sq_q (q_len rfl Tryd.runUnderlying98) rfl ?_
 refine sq_q (q_decF (q_lss rfl rfl) (by omega)) rfl ?_
 refine sqK [0, 1, 8] rfl ?_
 refine sc_cond_f rfl ?_
 refine scS ?_
 refine scK [] rfl ?_
 refine scR ?_
 refine sqA rfl rfl ?_
 refine sqZ ?_
 refine sc_ret ?_
 exact se_end (res1 Tryd.results27 rfl) (fun w' hw => ⟨rfl, hw.same_of⟩)

theorem ordered26 {w : World} : Calls Tryd.prog 26 #[.int .i64 3, .slice none 0 0] w (FreshR 3 1 [.int .i64 0, .int .i64 1, .int .i64 2] 3 w) := by
 refine begins E0 Tryd.func26 rfl Tryd.ntmps26 rfl [(0, _), (1, _)] ⟨rfl, rfl, trivial⟩ [] trivial List.nodup_nil ?_
 refine scR ?_
 refine sqA rfl rfl ?_
 refine sqKR [0, 1] rfl ?_
 refine sq_m (m_lit (vs := []) trivial (e := 3) (l := []) (fun w => by kernel_rfl)) rfl (fun _ _ => ?_)
 refine sqA rfl rfl ?_
 refine sqK [0, 1, 5] rfl ?_
 refine sc_seq ?_
 refine scR ?_
 refine sqA rfl rfl ?_
 refine sqZ ?_
 refine sc_block ?_
 refine sc_rounds ?_
 refine sl_round ?_
 refine sc_seq ?_
 refine scR ?_
 iterate 2 refine sqM rfl rfl ?_
 refine sq_q (q_decT (q_lss rfl rfl) (by decide)) rfl ?_
 refine sqK [0, 1, 5, 6, 11] rfl ?_
 refine sc_cond_t rfl ?_
 refine scS ?_
 refine scK [0, 1, 5, 6] rfl ?_
 refine sc_seq ?_
 refine sc_block ?_
 refine scR ?_
 iterate 2 refine sqM rfl rfl ?_
 refine sq_m (m_lit (vs := [(0, _)]) ⟨rfl, rfl, trivial⟩ (e := 3) (l := [.int .i64 (0)]) (fun w => by kernel_rfl)) rfl (fun _ _ => ?_)
 refine sq_row (m_app_src (i := Tryd.t3) (z := .int .i64 0) (k := 1) (n := 0) (m := 1) (RowOk.lit (L := w.heap.size) (b := w.heap.size) rfl rfl (by omega) (by omega) rfl) rfl rfl (fun w1 h1 => src_at h1 Tryd.underlying98 (j := 0) rfl (news := [.int .i64 (0)]) rfl (Nat.le_refl _) rfl) (pull [_] [] [[_]]) (fun _ => List.Perm.refl _) Tryd.underlying98 (by kernel_rfl) (by kernel_rfl) t3_size (by kernel_rfl) (by omega) (bytes_fit (by omega) t3_bytes) (by omega) (by intro p hp h; rw [List.mem_singleton.1 hp] at h; dsimp only at h; omega)) (by omega) rfl (fun b1 c1 N1 p1 hN1 hb1 hr1 => ?_)
 refine sq_mem (ms := [_]) (fun w1 h1 => h1.sublist (.cons_cons _ (.cons _ .slnil))) ?_
 refine sqA rfl rfl ?_
 refine sqKR [0, 1, 5, 6] rfl ?_
 refine sqM rfl rfl ?_
 refine sq_q (q_len rfl Tryd.runUnderlying98) rfl ?_
 refine sq_q (q_sub rfl rfl (w_i64 (by decide) (by decide))) rfl ?_
 refine sqA rfl rfl ?_
 refine sqK [0, 1, 5, 6, 7] rfl ?_
 refine sc_block ?_
 refine sc_rounds ?_
 refine sl_round ?_
 refine sc_seq ?_
 refine scR ?_
 refine sqM rfl rfl ?_
 refine sq_q (q_decF (q_gtr rfl rfl) (by decide)) rfl ?_
 refine sqM rfl rfl ?_
 iterate 11 refine sq_gn rfl rfl rfl rfl ?_
 refine sqF rfl rfl rfl ?_
 refine sqK [0, 1, 5, 6, 7, 24, 25, 26, 27, 28, 29, 30, 31, 32, 33, 34, 35] rfl ?_
 refine sc_cond_f rfl ?_
 refine sc_exit ?_
 iterate 2 refine se_then_exit ?_
 refine se_block_hit ?_
 refine se_block ?_
 refine se_seq ?_
 refine scK [0, 1, 5, 6, 24, 25, 26, 27, 28, 29, 30, 31, 32, 33, 34] rfl ?_
 refine sc_region ?_
 refine sqM rfl rfl ?_
 refine sq_q (q_add rfl rfl (w_i64 (by decide) (by decide))) rfl ?_
 refine sqA rfl rfl ?_
 refine sq_nil ?_
 refine se_again ?_
 refine slK [0, 1, 5, 6, 24, 25, 26, 27, 28, 29, 30, 31, 32, 33, 34] rfl ?_
 refine sl_round ?_
 refine sc_seq ?_
 refine scR ?_
 iterate 2 refine sqM rfl rfl ?_
 refine sq_q (q_decT (q_lss rfl rfl) (by decide)) rfl ?_
 refine sqK [0, 1, 5, 6, 11, 24, 25, 26, 27, 28, 29, 30, 31, 32, 33, 34] rfl ?_
 refine sc_cond_t rfl ?_
 refine scS ?_
 refine scK [0, 1, 5, 6, 24, 25, 26, 27, 28, 29, 30, 31, 32, 33, 34] rfl ?_
 refine sc_seq ?_
 refine sc_block ?_
 refine scR ?_
 iterate 2 refine sqM rfl rfl ?_
 refine sq_m (m_lit (vs := [(0, _)]) ⟨rfl, rfl, trivial⟩ (e := 3) (l := [.int .i64 (0 + 1)]) (fun w => by kernel_rfl)) rfl (fun _ _ => ?_)
 refine sq_row (m_app_src (i := Tryd.t3) (z := .int .i64 0) (k := 1) (n := 1) (m := 1) hr1 rfl rfl (fun w1 h1 => src_at h1 Tryd.underlying98 (j := 0) rfl (news := [.int .i64 (0 + 1)]) rfl (Nat.le_refl _) rfl) (pull [_] [] [[_]]) (fun _ => List.Perm.refl _) Tryd.underlying98 (by kernel_rfl) (by kernel_rfl) t3_size (by kernel_rfl) (by omega) (bytes_fit (by omega) t3_bytes) (by omega) (by intro p hp h; rw [List.mem_singleton.1 hp] at h; dsimp only at h; omega)) (by omega) rfl (fun b2 c2 N2 p2 hN2 hb2 hr2 => ?_)
 refine sq_mem (ms := [_]) (fun w1 h1 => h1.sublist (.cons_cons _ (.cons _ .slnil))) ?_
 refine sqA rfl rfl ?_
 refine sqKR [0, 1, 5, 6, 24, 25, 26, 27, 28, 29, 30, 31, 32, 33, 34] rfl ?_
 refine sqM rfl rfl ?_
 refine sq_q (q_len rfl Tryd.runUnderlying98) rfl ?_
 refine sq_q (q_sub rfl rfl (w_i64 (by decide) (by decide))) rfl ?_
 refine sqA rfl rfl ?_
 refine sqK [0, 1, 5, 6, 7, 24, 25, 26, 27, 28, 29, 30, 31, 32, 33, 34] rfl ?_
 refine sc_block ?_
 refine sc_rounds ?_
 refine sl_round ?_
 refine sc_seq ?_
 refine scR ?_
 refine sqM rfl rfl ?_
 refine sq_q (q_decT (q_gtr rfl rfl) (by decide)) rfl ?_
 refine sqM rfl rfl ?_
 refine sq_gy rfl rfl rfl ?_
 refine sqM rfl rfl ?_
 refine sq_gy rfl rfl rfl ?_
 refine sqM rfl rfl ?_
 refine sq_gy rfl rfl rfl ?_
 refine sqM rfl rfl ?_
 refine sq_gy rfl rfl rfl ?_
 refine sq_q (q_sub rfl rfl (w_i64 (by decide) (by decide))) rfl ?_
 refine sq_gy rfl rfl rfl ?_
 refine sq_q (q_index rfl rfl Tryd.runUnderlying98 Tryd.sizeOf3 ⟨by decide, by decide⟩ rfl) rfl ?_
 refine sq_gy rfl rfl rfl ?_
 refine sq_q (q_load1 rfl Tryd.isAgg3 (i := 0) rfl rfl) rfl ?_
 refine sq_gy rfl rfl rfl ?_
 refine sq_q (q_call (args2 rfl rfl) Tryd.call27 (fun w hw => get27 (by decide))) rfl ?_
 refine sq_gy rfl rfl rfl ?_
 refine sqM rfl rfl ?_
 refine sq_gy rfl rfl rfl ?_
 refine sqM rfl rfl ?_
 refine sq_gy rfl rfl rfl ?_
 refine sq_q (q_call (args2 rfl rfl) Tryd.call27 (fun w hw => get27 (by decide))) rfl ?_
 refine sq_gy rfl rfl rfl ?_
 refine sq_q (q_decF (q_gtr rfl rfl) (by decide)) rfl ?_
 refine sqT rfl rfl rfl ?_
 refine sqK [0, 1, 5, 6, 7, 24, 25, 26, 27, 28, 29, 30, 31, 32, 33, 34, 35] rfl ?_
 refine sc_cond_f rfl ?_
 refine sc_exit ?_
 iterate 2 refine se_then_exit ?_
 refine se_block_hit ?_
 refine se_block ?_
 refine se_seq ?_
 refine scK [0, 1, 5, 6, 24, 25, 26, 27, 28, 29, 30, 31, 32, 33, 34] rfl ?_
 refine sc_region ?_
 refine sqM rfl rfl ?_
 refine sq_q (q_add rfl rfl (w_i64 (by decide) (by decide))) rfl ?_
 refine sqA rfl rfl ?_
 refine sq_nil ?_
 refine se_again ?_
 refine slK [0, 1, 5, 6, 24, 25, 26, 27, 28, 29, 30, 31, 32, 33, 34] rfl ?_
 refine sl_round ?_
 refine sc_seq ?_
 refine scR ?_
 iterate 2 refine sqM rfl rfl ?_
 refine sq_q (q_decT (q_lss rfl rfl) (by decide)) rfl ?_
 refine sqK [0, 1, 5, 6, 11, 24, 25, 26, 27, 28, 29, 30, 31, 32, 33, 34] rfl ?_
 refine sc_cond_t rfl ?_
 refine scS ?_
 refine scK [0, 1, 5, 6, 24, 25, 26, 27, 28, 29, 30, 31, 32, 33, 34] rfl ?_
 refine sc_seq ?_
 refine sc_block ?_
 refine scR ?_
 iterate 2 refine sqM rfl rfl ?_
 refine sq_m (m_lit (vs := [(0, _)]) ⟨rfl, rfl, trivial⟩ (e := 3) (l := [.int .i64 (0 + 1 + 1)]) (fun w => by kernel_rfl)) rfl (fun _ _ => ?_)
 refine sq_row (m_app_src (i := Tryd.t3) (z := .int .i64 0) (k := 1) (n := 2) (m := 1) hr2 rfl rfl (fun w1 h1 => src_at h1 Tryd.underlying98 (j := 0) rfl (news := [.int .i64 (0 + 1 + 1)]) rfl (Nat.le_refl _) rfl) (pull [_] [] [[_]]) (fun _ => List.Perm.refl _) Tryd.underlying98 (by kernel_rfl) (by kernel_rfl) t3_size (by kernel_rfl) (by omega) (bytes_fit (by omega) t3_bytes) (by omega) (by intro p hp h; rw [List.mem_singleton.1 hp] at h; dsimp only at h; omega)) (by omega) rfl (fun b3 c3 N3 p3 hN3 hb3 hr3 => ?_)
 refine sq_mem (ms := [_]) (fun w1 h1 => h1.sublist (.cons_cons _ (.cons _ .slnil))) ?_
 refine sqA rfl rfl ?_
 refine sqKR [0, 1, 5, 6, 24, 25, 26, 27, 28, 29, 30, 31, 32, 33, 34] rfl ?_
 refine sqM rfl rfl ?_
 refine sq_q (q_len rfl Tryd.runUnderlying98) rfl ?_
 refine sq_q (q_sub rfl rfl (w_i64 (by decide) (by decide))) rfl ?_
 refine sqA rfl rfl ?_
 refine sqK [0, 1, 5, 6, 7, 24, 25, 26, 27, 28, 29, 30, 31, 32, 33, 34] rfl ?_
 refine sc_block ?_
 refine sc_rounds ?_
 refine sl_round ?_
 refine sc_seq ?_
 refine scR ?_
 refine sqM rfl rfl ?_
 refine sq_q (q_decT (q_gtr rfl rfl) (by decide)) rfl ?_
 refine sqM rfl rfl ?_
 refine sq_gy rfl rfl rfl ?_
 refine sqM rfl rfl ?_
 refine sq_gy rfl rfl rfl ?_
 refine sqM rfl rfl ?_
 refine sq_gy rfl rfl rfl ?_
 refine sqM rfl rfl ?_
 refine sq_gy rfl rfl rfl ?_
 refine sq_q (q_sub rfl rfl (w_i64 (by decide) (by decide))) rfl ?_
 refine sq_gy rfl rfl rfl ?_
 refine sq_q (q_index rfl rfl Tryd.runUnderlying98 Tryd.sizeOf3 ⟨by decide, by decide⟩ rfl) rfl ?_
 refine sq_gy rfl rfl rfl ?_
 refine sq_q (q_load1 rfl Tryd.isAgg3 (i := 0) rfl rfl) rfl ?_
 refine sq_gy rfl rfl rfl ?_
 refine sq_q (q_call (args2 rfl rfl) Tryd.call27 (fun w hw => get27 (by decide))) rfl ?_
 refine sq_gy rfl rfl rfl ?_
 refine sqM rfl rfl ?_
 refine sq_gy rfl rfl rfl ?_
 refine sqM rfl rfl ?_
 refine sq_gy rfl rfl rfl ?_
 refine sq_q (q_call (args2 rfl rfl) Tryd.call27 (fun w hw => get27 (by decide))) rfl ?_
 refine sq_gy rfl rfl rfl ?_
 refine sq_q (q_decF (q_gtr rfl rfl) (by decide)) rfl ?_
 refine sqT rfl rfl rfl ?_
 refine sqK [0, 1, 5, 6, 7, 24, 25, 26, 27, 28, 29, 30, 31, 32, 33, 34, 35] rfl ?_
 refine sc_cond_f rfl ?_
 refine sc_exit ?_
 iterate 2 refine se_then_exit ?_
 refine se_block_hit ?_
 refine se_block ?_
 refine se_seq ?_
 refine scK [0, 1, 5, 6, 24, 25, 26, 27, 28, 29, 30, 31, 32, 33, 34] rfl ?_
 refine sc_region ?_
 refine sqM rfl rfl ?_
 refine sq_q (q_add rfl rfl (w_i64 (by decide) (by decide))) rfl ?_
 refine sqA rfl rfl ?_
 refine sq_nil ?_
 refine se_again ?_
 refine slK [0, 1, 5, 6, 24, 25, 26, 27, 28, 29, 30, 31, 32, 33, 34] rfl ?_
 refine sl_round ?_
 refine sc_seq ?_
 refine scR ?_
 iterate 2 refine sqM rfl rfl ?_
 refine sq_q (q_decF (q_lss rfl rfl) (by decide)) rfl ?_
 refine sqK [0, 1, 5, 6, 11, 24, 25, 26, 27, 28, 29, 30, 31, 32, 33, 34] rfl ?_
 refine sc_cond_f rfl ?_
 refine sc_exit ?_
 iterate 2 refine se_then_exit ?_
 refine se_block_hit ?_
 refine se_seq ?_
 refine scK [5] rfl ?_
 refine scR ?_
 refine sqM rfl rfl ?_
 refine sqA rfl rfl ?_
 refine sqK [4] rfl ?_
 refine sc_ret ?_
 exact se_end (res1 Tryd.results26 rfl) (fun w' hw => ⟨_, _, rfl, hr3, hw.eff, fun p hp => hw.has p hp⟩)

abbrev shB : ByteArray := { data := #[46, 115, 104, 115, 116, 114, 116, 97, 98] }
abbrev nms : List Value := [.string ⟨#[]⟩, .string shB]
def namesB : List UInt8 := [0, 0, 46, 115, 104, 115, 116, 114, 116, 97, 98, 0]
/-- How Names ends. -/
def NamesR (w : World) (en : Ending) (w' : World) : Prop := ∃ v1 R1 v2 R2, en = .returned (.tuple #[v1, v2]) ∧ BR w.heap.size namesB v1 R1 ∧ RowOk w.heap.size 3 1 [.int .i64 1, .int .i64 2] 2 v2 R2 ∧ Eff E0 w w' ∧ Has (R1 ++ R2) w' ∧ ((R1 ++ R2).map Prod.fst).Nodup

theorem names28 {lb lc : Nat} {pad : List Value} {w : World} (hl : w.heap[lb]? = some (.cells (nms ++ pad).toArray 9 (0, 0))) :
  Calls Tryd.prog 28 #[.slice (some ⟨lb, 0, none⟩) 2 lc] w (NamesR w) := by
 refine begins E0 Tryd.func28 rfl Tryd.ntmps28 rfl [(0, _)] ⟨rfl, trivial⟩ [(lb, .cells (nms ++ pad).toArray 9 (0, 0))] ⟨hl, trivial⟩ (by simp) ?_
 refine scR ?_
 iterate 2 refine sqA rfl rfl ?_
 refine sqKR [0] rfl ?_
 refine sq_m (m_lit (vs := [(0, _)]) ⟨rfl, rfl, trivial⟩ (e := 5) (l := [.int .u8 0]) (fun w => by kernel_rfl)) rfl (fun _ _ => ?_)
 refine sqA rfl rfl ?_
 refine sqKR [0, 4] rfl ?_
 refine sq_m (m_lit (vs := []) trivial (e := 3) (l := []) (fun w => by kernel_rfl)) rfl (fun _ _ => ?_)
 refine sqA rfl rfl ?_
 refine sqK [0, 4, 5] rfl ?_
 refine sc_seq ?_
 refine scR ?_
 refine sqM rfl rfl ?_
 refine sq_q (q_len rfl Tryd.runUnderlying129) rfl ?_
 refine sqM rfl rfl ?_
 refine sqK [4, 5, 10, 11, 12] rfl ?_
 refine sc_block ?_
 refine sc_rounds ?_
 refine sl_round ?_
 refine scR ?_
 refine sq_q (q_decT (q_lss rfl rfl) (by decide)) rfl ?_
 refine sqZ ?_
 refine sc_seq ?_
 refine sc_cond_t rfl ?_
 refine scS ?_
 refine scK [4, 5, 10, 11, 12] rfl ?_
 refine sc_seq ?_
 refine sc_block ?_
 refine scR ?_
 refine sq_q (q_index rfl rfl Tryd.runUnderlying129 Tryd.sizeOf9 ⟨by decide, by decide⟩ rfl) rfl ?_
 refine sq_q (q_load1 rfl Tryd.isAgg9 (i := 2) rfl rfl) rfl ?_
 refine sqA rfl rfl ?_
 refine sqKR [4, 5, 7, 10, 11, 12] rfl ?_
 iterate 2 refine sqM rfl rfl ?_
 refine sq_q (q_len rfl Tryd.runUnderlying22) rfl ?_
 refine sq_m (m_lit (vs := [(0, _)]) ⟨rfl, rfl, trivial⟩ (e := 3) (l := [.int .i64 1]) (fun w => by kernel_rfl)) rfl (fun _ _ => ?_)
 refine sq_row (m_app_src (i := Tryd.t3) (z := .int .i64 0) (k := 1) (n := 0) (m := 1) (RowOk.lit (L := w.heap.size) (b := w.heap.size + 1) rfl rfl (by omega) (by omega) rfl) rfl rfl (fun w1 h1 => src_at h1 Tryd.underlying98 (j := 0) rfl (news := [_]) rfl (Nat.le_refl _) rfl) (pull [_] [_, _] [[_]]) (fun _ => List.Perm.refl _) Tryd.underlying98 (by kernel_rfl) (by kernel_rfl) t3_size (by kernel_rfl) (by omega) (bytes_fit (by omega) t3_bytes) (by omega) (by intro p hp h; rw [List.mem_singleton.1 hp] at h; dsimp only at h; omega)) (by omega) rfl (fun b1 c1 N1 p1 hN1 hb1 hr1 => ?_)
 refine sqA rfl rfl ?_
 refine sqK [4, 5, 7, 10, 11, 12] rfl ?_
 refine sc_region ?_
 iterate 2 refine sqM rfl rfl ?_
 refine sq_row (m_app_src (i := Tryd.t5) (z := .int .u8 0) (k := 1) (n := 1) (m := 0) (RowOk.lit (L := w.heap.size) (b := w.heap.size) rfl rfl (by omega) (by omega) rfl) rfl rfl (fun w1 h1 => (show Src Tryd.prog 1 9 (.string ⟨#[]⟩) 0 (byteCells ⟨#[]⟩) w1 from Src.ofString w1 Tryd.underlying9 ⟨#[]⟩)) (pull [_] [_] [[_, _]]) (fun _ => List.Perm.refl _) Tryd.underlying22 (by kernel_rfl) (by kernel_rfl) t5_size (by kernel_rfl) (by omega) (bytes_fit (by omega) t5_byte2) (by omega) (by intro p hp h; rw [List.mem_singleton.1 hp] at h; dsimp only at h; omega)) (by omega) rfl (fun b2 c2 N2 p2 hN2 hb2 hr2 => ?_)
 refine sq_m (m_lit (vs := [(0, _)]) ⟨rfl, rfl, trivial⟩ (e := 5) (l := [.int .u8 0]) (fun w => by kernel_rfl)) rfl (fun _ _ => ?_)
 refine sq_row (m_app_src (i := Tryd.t5) (z := .int .u8 0) (k := 1) (n := 1) (m := 1) hr2 rfl rfl (fun w1 h1 => src_at h1 Tryd.underlying22 (j := 0) rfl (news := [.int .u8 0]) rfl (Nat.le_refl _) rfl) (pull [_] [_, _, _] [[_]]) (fun _ => List.Perm.refl _) Tryd.underlying22 (by kernel_rfl) (by kernel_rfl) t5_size (by kernel_rfl) (by omega) (bytes_fit (by omega) t5_byte2) (by omega) (by intro p hp h; rw [List.mem_singleton.1 hp] at h; dsimp only at h; omega)) (by omega) rfl (fun b3 c3 N3 p3 hN3 hb3 hr3 => ?_)
 refine sq_mem (ms := [_, _, _]) (fun w1 h1 => h1.sublist (.cons_cons _ (.cons _ (.cons_cons _ (.cons _ (.cons_cons _ .slnil)))))) ?_
 refine sqA rfl rfl ?_
 refine sq_nil ?_
 refine se_block ?_
 refine se_seq ?_
 refine scK [4, 5, 10, 11, 12] rfl ?_
 refine sc_region ?_
 refine sq_q (q_add rfl rfl (w_i64 (by decide) (by decide))) rfl ?_
 refine sqM rfl rfl ?_
 refine sq_nil ?_
 refine se_again ?_
 refine slK [4, 5, 10, 11, 12] rfl ?_
 refine sl_round ?_
 refine scR ?_
 refine sq_q (q_decT (q_lss rfl rfl) (by decide)) rfl ?_
 refine sqZ ?_
 refine sc_seq ?_
 refine sc_cond_t rfl ?_
 refine scS ?_
 refine scK [4, 5, 10, 11, 12] rfl ?_
 refine sc_seq ?_
 refine sc_block ?_
 refine scR ?_
 refine sq_q (q_index rfl rfl Tryd.runUnderlying129 Tryd.sizeOf9 ⟨by decide, by decide⟩ rfl) rfl ?_
 refine sq_q (q_load1 rfl Tryd.isAgg9 (i := 2) rfl rfl) rfl ?_
 refine sqA rfl rfl ?_
 refine sqKR [4, 5, 7, 10, 11, 12] rfl ?_
 iterate 2 refine sqM rfl rfl ?_
 refine sq_q (q_len rfl Tryd.runUnderlying22) rfl ?_
 refine sq_m (m_lit (vs := [(0, _)]) ⟨rfl, rfl, trivial⟩ (e := 3) (l := [.int .i64 ((1 + 0 + 1 : Nat) : Int)]) (fun w => by kernel_rfl)) rfl (fun _ _ => ?_)
 refine sq_row (m_app_src (i := Tryd.t3) (z := .int .i64 0) (k := 1) (n := 1) (m := 1) hr1 rfl rfl (fun w1 h1 => src_at h1 Tryd.underlying98 (j := 0) rfl (news := [_]) rfl (Nat.le_refl _) rfl) (pull [_] [_] [[_, _]]) (fun _ => List.Perm.refl _) Tryd.underlying98 (by kernel_rfl) (by kernel_rfl) t3_size (by kernel_rfl) (by omega) (bytes_fit (by omega) t3_bytes) (by omega) (by intro p hp h; rw [List.mem_singleton.1 hp] at h; dsimp only at h; omega)) (by omega) rfl (fun b4 c4 N4 p4 hN4 hb4 hr4 => ?_)
 refine sqA rfl rfl ?_
 refine sqK [4, 5, 7, 10, 11, 12] rfl ?_
 refine sc_region ?_
 iterate 2 refine sqM rfl rfl ?_
 refine sq_row (m_app_src (i := Tryd.t5) (z := .int .u8 0) (k := 1) (n := 2) (m := 9) hr3 rfl rfl (fun w1 h1 => (show Src Tryd.prog 1 9 (.string shB) 9 (byteCells shB) w1 from Src.ofString w1 Tryd.underlying9 shB)) (pull [_] [_] [[_, _]]) (fun _ => List.Perm.refl _) Tryd.underlying22 (by kernel_rfl) (by kernel_rfl) t5_size (by kernel_rfl) (by omega) (bytes_fit (by omega) t5_byte2) (by omega) (by intro p hp h; rw [List.mem_singleton.1 hp] at h; dsimp only at h; omega)) (by omega) rfl (fun b5 c5 N5 p5 hN5 hb5 hr5 => ?_)
 refine sq_m (m_lit (vs := [(0, _)]) ⟨rfl, rfl, trivial⟩ (e := 5) (l := [.int .u8 0]) (fun w => by kernel_rfl)) rfl (fun _ _ => ?_)
 refine sq_row (m_app_src (i := Tryd.t5) (z := .int .u8 0) (k := 1) (n := 11) (m := 1) hr5 rfl rfl (fun w1 h1 => src_at h1 Tryd.underlying22 (j := 0) rfl (news := [.int .u8 0]) rfl (Nat.le_refl _) rfl) (pull [_] [_, _, _] [[_]]) (fun _ => List.Perm.refl _) Tryd.underlying22 (by kernel_rfl) (by kernel_rfl) t5_size (by kernel_rfl) (by omega) (bytes_fit (by omega) t5_byte2) (by omega) (by intro p hp h; rw [List.mem_singleton.1 hp] at h; dsimp only at h; omega)) (by omega) rfl (fun b6 c6 N6 p6 hN6 hb6 hr6 => ?_)
 refine sq_mem (ms := [_, _, _]) (fun w1 h1 => h1.sublist (.cons_cons _ (.cons _ (.cons_cons _ (.cons _ (.cons_cons _ .slnil)))))) ?_
 refine sqA rfl rfl ?_
 refine sq_nil ?_
 refine se_block ?_
 refine se_seq ?_
 refine scK [4, 5, 10, 11, 12] rfl ?_
 refine sc_region ?_
 refine sq_q (q_add rfl rfl (w_i64 (by decide) (by decide))) rfl ?_
 refine sqM rfl rfl ?_
 refine sq_nil ?_
 refine se_again ?_
 refine slK [4, 5, 10, 11, 12] rfl ?_
 refine sl_round ?_
 refine scR ?_
 refine sq_q (q_decF (q_lss rfl rfl) (by decide)) rfl ?_
 refine sqZ ?_
 refine sc_seq ?_
 refine sc_cond_f rfl ?_
 refine sc_exit ?_
 iterate 2 refine se_then_exit ?_
 refine se_block_hit ?_
 refine se_seq ?_
 refine scK [4, 5] rfl ?_
 refine scR ?_
 iterate 2 refine sqM rfl rfl ?_
 iterate 2 refine sqA rfl rfl ?_
 refine sqK [2, 3] rfl ?_
 refine sc_ret ?_
 exact se_end (res2 Tryd.results28 rfl rfl) (fun w' hw => by
  have hw2 := hw.sublist (.cons_cons _ (.cons_cons _ (List.nil_sublist _)))
  exact ⟨_, _, _, _, rfl, hr6, hr4, hw.eff, hw2.has, hw2.nd⟩)

end Go.Proofs.YtgkjnkhoopcjgaaDoor
/- The reference's sections of one small file. No condition. -/
namespace Go.Proofs.YtgkjnkhoopcjgaaDoor
open Go.Sx
set_option maxRecDepth 100000
set_option maxHeartbeats 1000000

theorem t126_size : Tryd.t126.size = 10 := by kernel_rfl
theorem t126_bytes : Tryd.t126.bytes ≤ 200 := by decide +kernel
abbrev pt0 : List Value := [.string ⟨#[]⟩, .int .u32 0, .int .u32 0, .int .u64 0, .int .u32 0, .int .u32 0, .int .u64 0, .int .u64 0, .int .u64 0, .slice none 0 0]
abbrev ats : List Value := [.int .i64 1, .int .i64 2]
abbrev pt1 (nb nc : Nat) : List Value := [.string shB, .int .u32 3, .int .u32 0, .int .u64 0, .int .u32 0, .int .u32 0, .int .u64 1, .int .u64 0, .int .u64 0, .slice (some ⟨nb, 0, none⟩) 12 nc]
/-- A call of Names in a walk. -/
theorem sq_names {w0 : World} {E : Nat → Prop} {fm : FM} {N : Nat} {mm : MM} {x : Operand} {ts : Array TypeId} {d : Nat} {ty : TypeId} {pos : String} {after : Array Edge} {nt : Nat} {ops : Array Oper} {Q : Exit → Act → World → Prop} {r : List Oper} {lb lc j : Nat} {pad : List Value}
  (hx : fm.ev x = some (.slice (some ⟨lb, 0, none⟩) 2 lc)) (hm : mm[j]? = some (lb, .cells (nms ++ pad).toArray 9 (0, 0))) (hd : Nat.blt d nt = true)
  (h : ∀ (nb nc tb tc N' : Nat) (np tp : List Value), N ≤ N' → w0.heap.size ≤ nb → w0.heap.size ≤ tb → BR w0.heap.size namesB (.slice (some ⟨nb, 0, none⟩) 12 nc) [(nb, .cells (namesB.map u8v ++ np).toArray 5 (0, 0))] →
   RowOk w0.heap.size 3 1 ats 2 (.slice (some ⟨tb, 0, none⟩) 2 tc) [(tb, .cells (ats ++ tp).toArray 3 (0, 0))] →
   Sq Tryd.prog ops Q nt w0 E r ((d, .tuple #[.slice (some ⟨nb, 0, none⟩) 12 nc, .slice (some ⟨tb, 0, none⟩) 2 tc]) :: fm) N' ((nb, .cells (namesB.map u8v ++ np).toArray 5 (0, 0)) :: (tb, .cells (ats ++ tp).toArray 3 (0, 0)) :: mm)) :
  Sq Tryd.prog ops Q nt w0 E (⟨some d, .call { callee := .value (.func 28), args := #[x], argTypes := ts }, ty, pos, after, none⟩ :: r) fm N mm := by
 refine sq_m (ι := Ry × Ry) (V := fun q => .tuple #[q.1.v, q.2.v]) (N' := fun q => q.1.N) (mm' := fun q => (q.1.R ++ q.2.R) ++ mm) (F := fun q => N ≤ q.1.N ∧ BR w0.heap.size namesB q.1.v q.1.R ∧ RowOk w0.heap.size 3 1 ats 2 q.2.v q.2.R) (m_call (args1 hx) Tryd.call28 fun w hw => ?_) hd fun q hq => ?_
 ·
  refine (names28 (hw.get hm)).mono fun en w' ⟨v1, R1, v2, R2, h1, h2, h3, h4, h5, h6⟩ => ?_
  have hge : w0.heap.size ≤ w.heap.size := by rw [hw.size]; exact hw.ge
  refine ⟨(⟨v1, R1, w'.heap.size⟩, ⟨v2, R2, 0⟩), ⟨by rw [← hw.size]; exact h4.size, RowOk.low h2 hge, h3.low hge⟩, h1, ?_⟩
  exact hw.call_new h4 (R1 ++ R2) h5 (fun p hp => by
   rw [← hw.size]
   rcases List.mem_append.1 hp with hp | hp
   ·
    exact RowOk_low h2 p hp
   ·
    exact RowOk_low h3 p hp) h6
 ·
  obtain ⟨⟨v1, R1, N1⟩, ⟨v2, R2, N2⟩⟩ := q
  obtain ⟨h1, h2, h3⟩ := hq
  dsimp only at h1 h2 h3
  obtain ⟨nb, nc, np, rfl, rfl, h4⟩ := RowOk.told h2 (by decide)
  obtain ⟨tb, tc, tp, rfl, rfl, h5⟩ := RowOk.told h3 (by decide)
  exact h nb nc tb tc N1 np tp h1 h4 h5 h2 h3
/-- How All ends. -/
def AllR (w : World) (en : Ending) (w' : World) : Prop := ∃ (b cap nb nc : Nat) (pad np : List Value), en = .returned (.slice (some ⟨b, 0, none⟩) 2 cap) ∧ RowOk w.heap.size 126 10 (pt0 ++ pt1 nb nc) 2 (.slice (some ⟨b, 0, none⟩) 2 cap) [(b, .cells ((pt0 ++ pt1 nb nc) ++ pad).toArray 126 (0, 0))] ∧ w.heap.size ≤ nb ∧ 12 ≤ nc ∧ nc ≤ 9223372036854775807 ∧ Eff E0 w w' ∧
 Has [(b, .cells ((pt0 ++ pt1 nb nc) ++ pad).toArray 126 (0, 0)), (nb, .cells (namesB.map u8v ++ np).toArray 5 (0, 0))] w' ∧ b ≠ nb

theorem all25 {w : World} : Calls Tryd.prog 25 #[.agg [.bool true, .bool false, .int .u8 0, .int .u8 0, .int .i64 1, .int .i64 0, .int .u64 0, .slice none 0 0, .slice none 0 0].toArray] w (AllR w) := by
 refine begins E0 Tryd.func25 rfl Tryd.ntmps25 rfl [(0, _)] ⟨rfl, trivial⟩ [] trivial List.nodup_nil ?_
 refine scR ?_
 refine sq_m (m_box (l := [.bool true, .bool false, .int .u8 0, .int .u8 0, .int .i64 1, .int .i64 0, .int .u64 0, .slice none 0 0, .slice none 0 0]) rfl rfl) rfl (fun _ _ => ?_)
 refine sqA rfl rfl ?_
 refine sqKR [1] rfl ?_
 refine sq_q (q_build (vs := []) (cs := pt0.toArray) trivial (fun _ => by kernel_rfl)) rfl ?_
 refine sq_m (m_lit (vs := [(0, _)]) ⟨rfl, rfl, trivial⟩ (e := 126) (l := pt0) (fun w => by kernel_rfl)) rfl (fun _ _ => ?_)
 refine sq_q (q_fieldj (j := 8) rfl Tryd.runUnderlying104 rfl Tryd.sizeOf102 rfl) rfl ?_
 refine sq_q (q_load1 rfl Tryd.isAgg102 (i := 1) rfl rfl) rfl ?_
 refine sq_row (m_app_src (i := Tryd.t126) (z := .agg pt0.toArray) (k := 10) (n := 1) (m := 0) (RowOk.lit (L := w.heap.size) (b := w.heap.size + 1) rfl rfl (by omega) (by omega) rfl) rfl rfl (fun w1 h1 => Src.ofNil w1 Tryd.underlying102 0) (pull [_] [_] [[]]) (fun _ => List.Perm.refl _) Tryd.underlying102 (by kernel_rfl) (by kernel_rfl) t126_size (by kernel_rfl) (by omega) (bytes_fit (by omega) t126_bytes) (by omega) (by intro p hp h; rw [List.mem_singleton.1 hp] at h; dsimp only at h; omega)) (by omega) rfl (fun b1 c1 N1 p1 hN1 hb1 hr1 => ?_)
 refine sqA rfl rfl ?_
 refine sqKR [3] rfl ?_
 refine sq_m (m_lit (vs := []) trivial (e := 9) (l := []) (fun w => by kernel_rfl)) rfl (fun _ _ => ?_)
 refine sqA rfl rfl ?_
 refine sqK [3, 4] rfl ?_
 refine sc_seq ?_
 refine scR ?_
 refine sqM rfl rfl ?_
 refine sq_q (q_len rfl Tryd.runUnderlying102) rfl ?_
 refine sqM rfl rfl ?_
 refine sqZ ?_
 refine sc_block ?_
 refine sc_rounds ?_
 refine sl_round ?_
 refine scR ?_
 refine sq_q (q_decT (q_lss rfl rfl) (by decide)) rfl ?_
 refine sqZ ?_
 refine sc_seq ?_
 refine sc_cond_t rfl ?_
 refine scS ?_
 refine scK [3, 4, 15, 16, 17] rfl ?_
 refine sc_seq ?_
 refine sc_block ?_
 refine scR ?_
 refine sq_q (q_index (j := 0) rfl rfl Tryd.runUnderlying102 Tryd.sizeOf126 ⟨by decide, by decide⟩ rfl) rfl ?_
 refine sq_q (q_loadM rfl Tryd.isAgg126 Tryd.sizeOf126 (i := 1) (vs := pt0) rfl (by simp) rfl) rfl ?_
 refine sq_m (m_alloc (l := pt0) Tryd.zeroValue126 rfl) rfl (fun _ _ => ?_)
 refine sq_m0 (m_stores (i := 0) (vs := pt0) (l' := pt0) rfl rfl Tryd.sizeOf126 rfl rfl rfl (Nat.le_refl _) rfl rfl (by intro h; omega)) (fun _ _ => ?_)
 refine sqK [3, 4, 6, 15, 16, 17] rfl ?_
 refine sc_region ?_
 refine sqM rfl rfl ?_
 refine sq_q (q_fieldj (j := 0) rfl Tryd.runUnderlying126 rfl Tryd.sizeOf9 rfl) rfl ?_
 refine sq_q (q_load1 rfl Tryd.isAgg9 (i := 0) rfl rfl) rfl ?_
 refine sq_m (m_lit (vs := [(0, _)]) ⟨rfl, rfl, trivial⟩ (e := 9) (l := [.string ⟨#[]⟩]) (fun w => by kernel_rfl)) rfl (fun _ _ => ?_)
 refine sq_row (m_app_src (i := Tryd.t9) (z := .string ⟨#[]⟩) (k := 1) (n := 0) (m := 1) (RowOk.lit (L := w.heap.size) (b := N1) rfl rfl (by omega) (by omega) rfl) rfl rfl (fun w1 h1 => src_at h1 Tryd.underlying129 (j := 0) rfl (news := [.string ⟨#[]⟩]) rfl (Nat.le_refl _) rfl) (pull [_] [_, _] [[_, _]]) (fun _ => List.Perm.refl _) Tryd.underlying129 (by kernel_rfl) (by kernel_rfl) t9_size (by kernel_rfl) (by omega) (bytes_fit (by omega) t9_bytes) (by omega) (by intro p hp h; rw [List.mem_singleton.1 hp] at h; dsimp only at h; omega)) (by omega) rfl (fun b2 c2 N2 p2 hN2 hb2 hr2 => ?_)
 refine sq_mem (ms := [_, _]) (fun w1 h1 => h1.sublist (.cons_cons _ (.cons _ (.cons _ (.cons_cons _ (.cons _ .slnil)))))) ?_
 refine sqA rfl rfl ?_
 refine sq_nil ?_
 refine se_block ?_
 refine se_seq ?_
 refine scK [3, 4, 15, 16, 17] rfl ?_
 refine sc_region ?_
 refine sq_q (q_add rfl rfl (w_i64 (by decide) (by decide))) rfl ?_
 refine sqM rfl rfl ?_
 refine sq_nil ?_
 refine se_again ?_
 refine slK [3, 4, 15, 16, 17] rfl ?_
 refine sl_round ?_
 refine scR ?_
 refine sq_q (q_decF (q_lss rfl rfl) (by decide)) rfl ?_
 refine sqZ ?_
 refine sc_seq ?_
 refine sc_cond_f rfl ?_
 refine sc_exit ?_
 iterate 2 refine se_then_exit ?_
 refine se_block_hit ?_
 refine se_seq ?_
 refine scK [3, 4] rfl ?_
 refine scR ?_
 refine sqM rfl rfl ?_
 refine sq_m (m_lit (vs := [(0, _)]) ⟨rfl, rfl, trivial⟩ (e := 9) (l := [.string shB]) (fun w => by kernel_rfl)) rfl (fun _ _ => ?_)
 refine sq_row (m_app_src (i := Tryd.t9) (z := .string ⟨#[]⟩) (k := 1) (n := 1) (m := 1) hr2 rfl rfl (fun w1 h1 => src_at h1 Tryd.underlying129 (j := 0) rfl (news := [.string shB]) rfl (Nat.le_refl _) rfl) (pull [_] [_] [[_]]) (fun _ => List.Perm.refl _) Tryd.underlying129 (by kernel_rfl) (by kernel_rfl) t9_size (by kernel_rfl) (by omega) (bytes_fit (by omega) t9_bytes) (by omega) (by intro p hp h; rw [List.mem_singleton.1 hp] at h; dsimp only at h; omega)) (by omega) rfl (fun b3 c3 N3 p3 hN3 hb3 hr3 => ?_)
 refine sq_names (j := 0) rfl rfl rfl (fun nb nc tb tc N99 np tp hN99 hnb htb hrn hrt => ?_)
 refine sqM rfl rfl ?_
 iterate 2 refine sq_q (q_extract rfl rfl) rfl ?_
 iterate 2 refine sqA rfl rfl ?_
 refine sqKR [3, 7] rfl ?_
 iterate 2 refine sqM rfl rfl ?_
 refine sq_q (q_build (vs := [(0, _), (1, _), (6, _), (9, _)]) (cs := (pt1 nb nc).toArray) ⟨rfl, rfl, rfl, rfl, rfl, rfl, rfl, rfl, trivial⟩ (fun _ => by kernel_rfl)) rfl ?_
 refine sq_m (m_lit (vs := [(0, _)]) ⟨rfl, rfl, trivial⟩ (e := 126) (l := pt1 nb nc) (fun w => by kernel_rfl)) rfl (fun _ _ => ?_)
 refine sq_row (m_app_src (i := Tryd.t126) (z := .agg pt0.toArray) (k := 10) (n := 1) (m := 1) hr1 rfl rfl (fun w1 h1 => src_at h1 Tryd.underlying102 (j := 0) rfl (news := pt1 nb nc) rfl (Nat.le_refl _) rfl) (pull [_] [] [[_, _, _, _, _]]) (fun _ => List.Perm.refl _) Tryd.underlying102 (by kernel_rfl) (by kernel_rfl) t126_size (by kernel_rfl) (by omega) (bytes_fit (by omega) t126_bytes) (by omega) (by intro p hp h; rw [List.mem_singleton.1 hp] at h; dsimp only at h; omega)) (by omega) rfl (fun b4 c4 N4 p4 hN4 hb4 hr4 => ?_)
 refine sqA rfl rfl ?_
 refine sqK [2] rfl ?_
 refine sc_ret ?_
 exact se_end (res1 Tryd.results25 rfl) (fun w' hw => by
  have hw2 := hw.sublist (ms := [_, _]) (.cons_cons _ (.cons _ (.cons_cons _ (.cons _ (.cons _ (.cons _ .slnil))))))
  exact ⟨_, _, nb, nc, _, np, rfl, hr4, hnb, hrn.cap_le.1, hrn.cap_le.2, hw.eff, hw2.has, by have h9 := hw2.nd; simp at h9; exact h9⟩)

end Go.Proofs.YtgkjnkhoopcjgaaDoor
/- The reference's layout of one small file: its bytes. No condition. -/
namespace Go.Proofs.YtgkjnkhoopcjgaaDoor
open Go.Sx
set_option maxRecDepth 100000
set_option maxHeartbeats 4000000

theorem t22_byte2 : Tryd.t22.bytes * 3 ≤ 281474976710656 := by decide +kernel
theorem t3_byte2 : Tryd.t3.bytes * (2 + 1) ≤ 281474976710656 := by decide +kernel
theorem secRB_length (a b c d e : Nat) : (secRB a b c d e).length = 64 := by simp [secRB, leB_length]
theorem header64 {w : World} : Calls Tryd.prog 31 #[.agg [.bool true, .bool false, .int .u8 0, .int .u8 0, .int .i64 1, .int .i64 0, .int .u64 0, .slice none 0 0, .slice none 0 0].toArray, .int .i64 0, .int .i64 64, .int .i64 2, .int .i64 76] w (FreshR 5 1 (hdrRB.map u8v) 64 w) := by
 have h : hdrRB.length = 64 := by simp [hdrRB, hd0, leB_length]
 have := header31 (w := w)
 rwa [h] at this
theorem secrow64 {nm : ByteArray} {name tp al dl dc off : Nat} {ad : Option Addr} {w : World} (ht : tp ≠ 8) (h1 : name < 4294967296) (h2 : tp < 4294967296) (h3 : al < 4294967296) (h4 : dl < 4294967296) (h5 : off < 4294967296) :
  Calls Tryd.prog 30 #[.agg [.bool true, .bool false, .int .u8 0, .int .u8 0, .int .i64 1, .int .i64 0, .int .u64 0, .slice none 0 0, .slice none 0 0].toArray, .int .i64 (name : Int), .agg [.string nm, .int .u32 (tp : Int), .int .u32 0, .int .u64 0, .int .u32 0, .int .u32 0, .int .u64 (al : Int), .int .u64 0, .int .u64 0, .slice ad dl dc].toArray, .int .i64 (off : Int)] w (FreshR 5 1 ((secRB name tp al dl off).map u8v) 64 w) := by
 have := secrow30 (nm := nm) (dc := dc) (ad := ad) (w := w) ht h1 h2 h3 h4 h5
 rwa [secRB_length] at this
theorem args4 {fm : FM} {a b c d : Operand} {va vb vc vd : Value} (ha : fm.ev a = some va) (hb : fm.ev b = some vb) (hc : fm.ev c = some vc) (hd : fm.ev d = some vd) : ∀ ρ, Agr fm ρ → #[a, b, c, d].map ρ = #[va, vb, vc, vd] := fun ρ hρ => by simp [hρ _ _ ha, hρ _ _ hb, hρ _ _ hc, hρ _ _ hd]
theorem args5 {fm : FM} {a b c d e : Operand} {va vb vc vd ve : Value} (ha : fm.ev a = some va) (hb : fm.ev b = some vb) (hc : fm.ev c = some vc) (hd : fm.ev d = some vd) (he : fm.ev e = some ve) : ∀ ρ, Agr fm ρ → #[a, b, c, d, e].map ρ = #[va, vb, vc, vd, ve] := fun ρ hρ => by simp [hρ _ _ ha, hρ _ _ hb, hρ _ _ hc, hρ _ _ hd, hρ _ _ he]
/-- A row as a source. -/
theorem src_row {P : Program} {w0 : World} {E : Nat → Prop} {N : Nat} {mm : MM} {w : World} {size : Nat} {tx e' : TypeId} {b m c j : Nat} {xs pad : List Value} {e2 : TypeId} {fr : Nat × Nat} (hw : Mem w0 E N mm w) (hk : P.underlying tx = some (.slice e')) (hm : mm[j]? = some (b, .cells (xs ++ pad).toArray e2 fr))
  (hl : xs.length = m * size) (h1 : xs.all (·.oneCell') = true) : Src P size tx (.slice (some ⟨b, 0, none⟩) m c) m xs w :=
 src_at hw hk hm (by rw [List.drop_zero, ← hl, List.take_left]) (by rw [List.length_append]; omega) h1
/-- A call of All in a walk. -/
theorem sq_all {w0 : World} {E : Nat → Prop} {fm : FM} {N : Nat} {mm : MM} {x : Operand} {ts : Array TypeId} {d : Nat} {ty : TypeId} {pos : String} {after : Array Edge} {nt : Nat} {ops : Array Oper} {Q : Exit → Act → World → Prop} {r : List Oper}
  (hx : fm.ev x = some (.agg [.bool true, .bool false, .int .u8 0, .int .u8 0, .int .i64 1, .int .i64 0, .int .u64 0, .slice none 0 0, .slice none 0 0].toArray)) (hd : Nat.blt d nt = true)
  (h : ∀ (b cap nb nc N' : Nat) (pad np : List Value), N ≤ N' → w0.heap.size ≤ b → 2 ≤ cap → cap ≤ 9223372036854775807 →
   Sq Tryd.prog ops Q nt w0 E r ((d, .slice (some ⟨b, 0, none⟩) 2 cap) :: fm) N' ((b, .cells ((pt0 ++ pt1 nb nc) ++ pad).toArray 126 (0, 0)) :: (nb, .cells (namesB.map u8v ++ np).toArray 5 (0, 0)) :: mm)) :
  Sq Tryd.prog ops Q nt w0 E (⟨some d, .call { callee := .value (.func 25), args := #[x], argTypes := ts }, ty, pos, after, none⟩ :: r) fm N mm := by
 refine sq_m (ι := (Nat × Nat × Nat × Nat × Nat) × List Value × List Value) (V := fun q => .slice (some ⟨q.1.1, 0, none⟩) 2 q.1.2.1) (N' := fun q => q.1.2.2.2.2)
  (mm' := fun q => (q.1.1, .cells ((pt0 ++ pt1 q.1.2.2.1 q.1.2.2.2.1) ++ q.2.1).toArray 126 (0, 0)) :: (q.1.2.2.1, .cells (namesB.map u8v ++ q.2.2).toArray 5 (0, 0)) :: mm) (F := fun q => N ≤ q.1.2.2.2.2 ∧ w0.heap.size ≤ q.1.1 ∧ 2 ≤ q.1.2.1 ∧ q.1.2.1 ≤ 9223372036854775807) (m_call (args1 hx) Tryd.call25 fun w hw => ?_) hd fun q hq => ?_
 ·
  refine all25.mono fun en w' ⟨b, cap, nb, nc, pad, np, h1, h2, h3, h4, h5, h6, h7, h8⟩ => ?_
  have hge : w0.heap.size ≤ w.heap.size := by rw [hw.size]; exact hw.ge
  have hb := RowOk_low h2 _ (List.mem_singleton.2 rfl)
  refine ⟨((b, cap, nb, nc, w'.heap.size), pad, np), ⟨by rw [← hw.size]; exact h6.size, Nat.le_trans hge hb, h2.cap_le.1, h2.cap_le.2⟩, h1, ?_⟩
  refine hw.call_new h6 [_, _] h7 (fun p hp => ?_) (by simp [h8])
  rw [← hw.size]
  rcases List.mem_cons.1 hp with rfl | hp
  ·
   exact hb
  ·
   rw [List.mem_singleton.1 hp]; exact h3
 ·
  obtain ⟨⟨b, cap, nb, nc, N'⟩, pad, np⟩ := q
  exact h b cap nb nc N' pad np hq.1 hq.2.1 hq.2.2.1 hq.2.2.2
theorem hrn0 {L e k : Nat} : RowOk L e k [] 0 (.slice none 0 0) [] := ⟨(Nat.zero_mul _).symm, .inl ⟨rfl, rfl, rfl⟩⟩
def tabB : List UInt8 := secRB 0 0 0 0 0 ++ secRB 2 3 1 12 64
def imgB : List UInt8 := (hdrRB ++ namesB) ++ tabB

theorem laid17 {w : World} : Calls Tryd.prog 17 #[.agg [.bool true, .bool false, .int .u8 0, .int .u8 0, .int .i64 1, .int .i64 0, .int .u64 0, .slice none 0 0, .slice none 0 0].toArray, .agg [.slice none 0 0, .slice none 0 0].toArray] w fun en w' =>
  ∃ (b cap : Nat) (pad : List Value) (x1 x2 x3 : Value), en = .returned (.tuple #[.slice (some ⟨b, 0, none⟩) (76 + 128) cap, x1, x2, x3]) ∧ RowOk w.heap.size 5 1 (((hdrRB.map u8v ++ []) ++ namesB.map u8v) ++ (([] ++ (secRB 0 0 0 0 0).map u8v) ++ (secRB 2 3 1 12 64).map u8v)) (76 + 128) (.slice (some ⟨b, 0, none⟩) (76 + 128) cap) [(b, .cells ((((hdrRB.map u8v ++ []) ++ namesB.map u8v) ++ (([] ++ (secRB 0 0 0 0 0).map u8v) ++ (secRB 2 3 1 12 64).map u8v)) ++ pad).toArray 5 (0, 0))] ∧ Eff E0 w w' ∧
   w'.heap[b]? = some (.cells ((((hdrRB.map u8v ++ []) ++ namesB.map u8v) ++ (([] ++ (secRB 0 0 0 0 0).map u8v) ++ (secRB 2 3 1 12 64).map u8v)) ++ pad).toArray 5 (0, 0)) := by
 refine begins E0 Tryd.func17 rfl Tryd.ntmps17 rfl [(0, _), (1, _)] ⟨rfl, rfl, trivial⟩ [] trivial List.nodup_nil ?_
 refine scR ?_
 refine sq_m (m_box (l := [.bool true, .bool false, .int .u8 0, .int .u8 0, .int .i64 1, .int .i64 0, .int .u64 0, .slice none 0 0, .slice none 0 0]) rfl rfl) rfl (fun _ _ => ?_)
 refine sq_m (m_box (l := [.slice none 0 0, .slice none 0 0]) rfl rfl) rfl (fun _ _ => ?_)
 iterate 4 refine sqA rfl rfl ?_
 refine sqKR [2, 3] rfl ?_
 refine sq_q (q_fieldj (j := 0) rfl Tryd.runUnderlying104 rfl Tryd.sizeOf4 rfl) rfl ?_
 refine sq_q (q_load1 rfl Tryd.isAgg4 (i := 1) rfl rfl) rfl ?_
 refine sq_q (q_call (args1 rfl) Tryd.call9 (fun w hw => sizes9_true)) rfl ?_
 refine sqM rfl rfl ?_
 iterate 3 refine sq_q (q_extract rfl rfl) rfl ?_
 iterate 3 refine sqA rfl rfl ?_
 refine sqKR [2, 3, 8, 9, 10] rfl ?_
 refine sq_q (q_loadK rfl Tryd.isAgg104 Tryd.sizeOf104 (i := 1) (vs := [.bool true, .bool false, .int .u8 0, .int .u8 0, .int .i64 1, .int .i64 0, .int .u64 0, .slice none 0 0, .slice none 0 0]) rfl rfl) rfl ?_
 refine sq_all rfl rfl (fun lb lcap nb nc NA lpad np hNA hlb hlc hlc2 => ?_)
 refine sqA rfl rfl ?_
 refine sqKR [2, 3, 8, 9, 10, 11] rfl ?_
 refine sqM rfl rfl ?_
 refine sq_q (q_fieldj (j := 7) rfl Tryd.runUnderlying104 rfl Tryd.sizeOf101 rfl) rfl ?_
 refine sq_q (q_load1 rfl Tryd.isAgg101 (i := 3)  rfl rfl) rfl ?_
 refine sq_q (q_len rfl Tryd.runUnderlying101) rfl ?_
 refine sq_q (q_mul (r := 0) rfl rfl (w_i64e (by decide) (by decide) (by decide))) rfl ?_
 refine sq_m (m_lit (vs := [(0, _)]) ⟨rfl, rfl, trivial⟩ (e := 3) (l := [.int .i64 0]) (fun w => by kernel_rfl)) rfl (fun _ _ => ?_)
 refine sqA rfl rfl ?_
 refine sqK [2, 3, 8, 10, 11, 12] rfl ?_
 refine sc_seq ?_
 refine scR ?_
 refine sq_q (q_fieldj (j := 7) rfl Tryd.runUnderlying104 rfl Tryd.sizeOf101 rfl) rfl ?_
 refine sq_q (q_load1 rfl Tryd.isAgg101 (i := 4)  rfl rfl) rfl ?_
 refine sq_q (q_len rfl Tryd.runUnderlying101) rfl ?_
 refine sqM rfl rfl ?_
 refine sqK [2, 3, 8, 10, 11, 12, 54, 55, 56] rfl ?_
 refine sc_block ?_
 refine sc_rounds ?_
 refine sl_round ?_
 refine scR ?_
 refine sq_q (q_decF (q_lss rfl rfl) (by decide)) rfl ?_
 refine sqZ ?_
 refine sc_seq ?_
 refine sc_cond_f rfl ?_
 refine sc_exit ?_
 iterate 2 refine se_then_exit ?_
 refine se_block_hit ?_
 refine se_seq ?_
 refine scK [2, 3, 8, 10, 11, 12] rfl ?_
 refine sc_seq ?_
 refine scR ?_
 refine sqM rfl rfl ?_
 refine sq_q (q_slice_l (j := 10) rfl rfl Tryd.runUnderlying102 Tryd.sizeOf126 (by decide) (by decide) (by omega) rfl rfl rfl) rfl ?_
 refine sq_q (q_len rfl Tryd.runUnderlying102) rfl ?_
 refine sqM rfl rfl ?_
 refine sqK [2, 3, 8, 10, 11, 12, 68, 69, 70] rfl ?_
 refine sc_block ?_
 refine sc_rounds ?_
 refine sl_round ?_
 refine scR ?_
 refine sq_q (q_decT (q_lss rfl rfl) (by decide)) rfl ?_
 refine sqZ ?_
 refine sc_seq ?_
 refine sc_cond_t rfl ?_
 refine scS ?_
 refine scK [2, 3, 8, 10, 11, 12, 68, 69, 70] rfl ?_
 refine sc_seq ?_
 refine sc_block ?_
 refine scR ?_
 refine sq_q (q_index (i := 0) (j := 10) rfl rfl Tryd.runUnderlying102 Tryd.sizeOf126 ⟨by decide, by decide⟩ rfl) rfl ?_
 refine sq_q (q_loadM rfl Tryd.isAgg126 Tryd.sizeOf126 (i := 1) (vs := pt1 nb nc) rfl (by simp) rfl) rfl ?_
 refine sq_m (m_alloc (l := pt0) Tryd.zeroValue126 rfl) rfl (fun _ _ => ?_)
 refine sq_m0 (m_stores (i := 0) (vs := pt1 nb nc) (l' := pt1 nb nc) rfl rfl Tryd.sizeOf126 rfl rfl rfl (Nat.le_refl _) rfl rfl (by intro h; omega)) (fun _ _ => ?_)
 refine sqKR [2, 3, 8, 10, 11, 12, 16, 68, 69, 70] rfl ?_
 refine sq_q (q_fieldj (j := 9) rfl Tryd.runUnderlying126 rfl Tryd.sizeOf22 rfl) rfl ?_
 refine sq_q (q_load1 rfl Tryd.isAgg22 (i := 0)  rfl rfl) rfl ?_
 refine sq_q (q_len rfl Tryd.runUnderlying22) rfl ?_
 refine sqA rfl rfl ?_
 refine sqK [2, 3, 8, 10, 11, 12, 16, 17, 68, 69, 70] rfl ?_
 refine sc_seq ?_
 refine scR ?_
 refine sq_q (q_fieldj (j := 1) rfl Tryd.runUnderlying126 rfl Tryd.sizeOf74 rfl) rfl ?_
 refine sq_q (q_load1 rfl Tryd.isAgg74 (i := 0)  rfl rfl) rfl ?_
 refine sq_q (q_decF (q_eql rfl rfl) (by decide)) rfl ?_
 refine sqK [2, 3, 8, 10, 11, 12, 17, 68, 69, 70, 79] rfl ?_
 refine sc_cond_f rfl ?_
 refine scS ?_
 refine scK [2, 3, 8, 10, 11, 12, 17, 68, 69, 70] rfl ?_
 refine sc_region ?_
 iterate 2 refine sqM rfl rfl ?_
 refine sq_m (m_lit (vs := [(0, _)]) ⟨rfl, rfl, trivial⟩ (e := 3) (l := [.int .i64 12]) (fun w => by kernel_rfl)) rfl (fun _ _ => ?_)
 refine sq_row (m_app_src (i := Tryd.t3) (z := .int .i64 0) (k := 1) (n := 1) (m := 1) (RowOk.lit (L := w.heap.size) (b := NA) rfl rfl (by omega) (by omega) rfl) rfl rfl (fun w1 h1 => src_at h1 Tryd.underlying98 (j := 0) rfl (news := [.int .i64 12]) rfl (Nat.le_refl _) rfl) (pull [_] [_, _, _, _] [[_, _]]) (fun _ => List.Perm.refl _) Tryd.underlying98 (by kernel_rfl) (by kernel_rfl) t3_size (by kernel_rfl) (by omega) (bytes_fit (by omega) t3_bytes) (by omega) (by intro p hp h; rw [List.mem_singleton.1 hp] at h; dsimp only at h; omega)) (by omega) rfl (fun b1 c1 N1 p1 hN1 hb1 hr1 => ?_)
 refine sq_mem (ms := [_, _, _, _, _]) (fun w1 h1 => h1.sublist (.cons_cons _ (.cons _ (.cons _ (.cons_cons _ (.cons_cons _ (.cons_cons _ (.cons_cons _ .slnil)))))))) ?_
 refine sqA rfl rfl ?_
 refine sq_nil ?_
 refine se_block ?_
 refine se_seq ?_
 refine scK [2, 3, 8, 10, 11, 12, 68, 69, 70] rfl ?_
 refine sc_region ?_
 refine sq_q (q_add (r := 1) rfl rfl (w_i64e (by decide) (by decide) (by decide))) rfl ?_
 refine sqM rfl rfl ?_
 refine sq_nil ?_
 refine se_again ?_
 refine slK [2, 3, 8, 10, 11, 12, 68, 69, 70] rfl ?_
 refine sl_round ?_
 refine scR ?_
 refine sq_q (q_decF (q_lss rfl rfl) (by decide)) rfl ?_
 refine sqZ ?_
 refine sc_seq ?_
 refine sc_cond_f rfl ?_
 refine sc_exit ?_
 iterate 2 refine se_then_exit ?_
 refine se_block_hit ?_
 refine se_seq ?_
 refine scK [2, 3, 8, 10, 11, 12] rfl ?_
 refine scR ?_
 iterate 3 refine sqM rfl rfl ?_
 refine sq_q (q_len rfl Tryd.runUnderlying102) rfl ?_
 refine sq_q (q_mul (r := 128) rfl rfl (w_i64e (by decide) (by decide) (by decide))) rfl ?_
 refine sq_m (m_lit (vs := [(0, _)]) ⟨rfl, rfl, trivial⟩ (e := 3) (l := [.int .i64 128]) (fun w => by kernel_rfl)) rfl (fun _ _ => ?_)
 refine sq_row (m_app_src (i := Tryd.t3) (z := .int .i64 0) (k := 1) (n := 2) (m := 1) hr1 rfl rfl (fun w1 h1 => src_at h1 Tryd.underlying98 (j := 0) rfl (news := [.int .i64 128]) rfl (Nat.le_refl _) rfl) (pull [_] [_, _, _, _] [[_]]) (fun _ => List.Perm.refl _) Tryd.underlying98 (by kernel_rfl) (by kernel_rfl) t3_size (by kernel_rfl) (by omega) (bytes_fit (by omega) t3_bytes) (by omega) (by intro p hp h; rw [List.mem_singleton.1 hp] at h; dsimp only at h; omega)) (by omega) rfl (fun b2 c2 N2 p2 hN2 hb2 hr2 => ?_)
 refine sq_mem (ms := [_, _, _, _, _]) (fun w1 h1 => h1.sublist (.cons_cons _ (.cons _ (.cons_cons _ (.cons_cons _ (.cons_cons _ (.cons_cons _ .slnil))))))) ?_
 refine sqA rfl rfl ?_
 refine sqKR [2, 3, 8, 11, 12] rfl ?_
 refine sqM rfl rfl ?_
 refine sq_q (q_len rfl Tryd.runUnderlying98) rfl ?_
 refine sq_m (m_make (len := 2 + 1) (cap := 2 + 1) rfl rfl Tryd.underlying98 (by kernel_rfl) (i := Tryd.t3) (z := .int .i64 0) (by kernel_rfl) t3_size rfl (Nat.le_refl _) t3_byte2 (by decide)) rfl (fun _ _ => ?_)
 refine sqA rfl rfl ?_
 refine sqKR [2, 3, 8, 11, 12, 18] rfl ?_
 refine sqM rfl rfl ?_
 refine sq_q (q_len rfl Tryd.runUnderlying98) rfl ?_
 refine sq_q (q_fieldj (j := 0) rfl Tryd.runUnderlying106 rfl Tryd.sizeOf98 rfl) rfl ?_
 refine sq_q (q_load1 rfl Tryd.isAgg98 (i := 4) rfl rfl) rfl ?_
 refine sq_row (fresh_inv (args2 rfl rfl) Tryd.call26 (fun w1 hw1 => ordered26)) (by decide) rfl (fun b3 c3 N3 p3 hN3 hb3 hr3 => ?_)
 refine sqA rfl rfl ?_
 refine sqKR [2, 3, 8, 11, 12, 18, 19] rfl ?_
 refine sqM rfl rfl ?_
 refine sqA rfl rfl ?_
 refine sqK [2, 3, 11, 12, 18, 19, 20] rfl ?_
 refine sc_seq ?_
 refine scR ?_
 refine sqM rfl rfl ?_
 refine sq_q (q_len rfl Tryd.runUnderlying98) rfl ?_
 refine sqM rfl rfl ?_
 refine sqZ ?_
 refine sc_block ?_
 refine sc_rounds ?_
 refine sl_round ?_
 refine scR ?_
 refine sq_q (q_decT (q_lss rfl rfl) (by decide)) rfl ?_
 refine sqZ ?_
 refine sc_seq ?_
 refine sc_cond_t rfl ?_
 refine scS ?_
 refine scK [2, 3, 11, 12, 18, 19, 20, 101, 102, 103] rfl ?_
 refine sc_seq ?_
 refine sc_block ?_
 refine scR ?_
 refine sq_q (q_index (i := 0) (j := 0) rfl rfl Tryd.runUnderlying98 Tryd.sizeOf3 ⟨by decide, by decide⟩ rfl) rfl ?_
 refine sq_q (q_load1 rfl Tryd.isAgg3 (i := 0)  rfl rfl) rfl ?_
 refine sqA rfl rfl ?_
 refine sqKR [2, 3, 11, 12, 18, 19, 20, 22, 101, 102, 103] rfl ?_
 refine sqM rfl rfl ?_
 refine sq_q (q_fieldj (j := 1) rfl Tryd.runUnderlying106 rfl Tryd.sizeOf98 rfl) rfl ?_
 refine sq_q (q_load1 rfl Tryd.isAgg98 (i := 5)  rfl rfl) rfl ?_
 refine sqM rfl rfl ?_
 refine sq_q (q_call (args2 rfl rfl) Tryd.call27 (fun w hw => get27 (by decide))) rfl ?_
 refine sq_q (q_add (r := 64) rfl rfl (w_i64e (by decide) (by decide) (by decide))) rfl ?_
 refine sqA rfl rfl ?_
 refine sqKR [2, 3, 11, 12, 18, 19, 20, 22, 101, 102, 103] rfl ?_
 iterate 3 refine sqM rfl rfl ?_
 refine sq_q (q_index (i := 0) (j := 0) rfl rfl Tryd.runUnderlying98 Tryd.sizeOf3 ⟨by decide, by decide⟩ rfl) rfl ?_
 refine sq_m0 (m_store rfl rfl Tryd.sizeOf3 rfl (i := 1) rfl rfl rfl (by intro h; omega)) (fun _ _ => ?_)
 refine sqK [2, 3, 11, 12, 18, 19, 20, 22, 101, 102, 103] rfl ?_
 refine sc_region ?_
 iterate 3 refine sqM rfl rfl ?_
 refine sq_q (q_index (i := 0) (j := 0) rfl rfl Tryd.runUnderlying98 Tryd.sizeOf3 ⟨by decide, by decide⟩ rfl) rfl ?_
 refine sq_q (q_load1 rfl Tryd.isAgg3 (i := 2)  rfl rfl) rfl ?_
 refine sq_q (q_add (r := 64) rfl rfl (w_i64e (by decide) (by decide) (by decide))) rfl ?_
 refine sqA rfl rfl ?_
 refine sq_nil ?_
 refine se_block ?_
 refine se_seq ?_
 refine scK [2, 3, 11, 12, 18, 19, 20, 101, 102, 103] rfl ?_
 refine sc_region ?_
 refine sq_q (q_add (r := 1) rfl rfl (w_i64e (by decide) (by decide) (by decide))) rfl ?_
 refine sqM rfl rfl ?_
 refine sq_nil ?_
 refine se_again ?_
 refine slK [2, 3, 11, 12, 18, 19, 20, 101, 102, 103] rfl ?_
 refine sl_round ?_
 refine scR ?_
 refine sq_q (q_decT (q_lss rfl rfl) (by decide)) rfl ?_
 refine sqZ ?_
 refine sc_seq ?_
 refine sc_cond_t rfl ?_
 refine scS ?_
 refine scK [2, 3, 11, 12, 18, 19, 20, 101, 102, 103] rfl ?_
 refine sc_seq ?_
 refine sc_block ?_
 refine scR ?_
 refine sq_q (q_index (i := 1) (j := 1) rfl rfl Tryd.runUnderlying98 Tryd.sizeOf3 ⟨by decide, by decide⟩ rfl) rfl ?_
 refine sq_q (q_load1 rfl Tryd.isAgg3 (i := 0)  rfl rfl) rfl ?_
 refine sqA rfl rfl ?_
 refine sqKR [2, 3, 11, 12, 18, 19, 20, 22, 101, 102, 103] rfl ?_
 refine sqM rfl rfl ?_
 refine sq_q (q_fieldj (j := 1) rfl Tryd.runUnderlying106 rfl Tryd.sizeOf98 rfl) rfl ?_
 refine sq_q (q_load1 rfl Tryd.isAgg98 (i := 5)  rfl rfl) rfl ?_
 refine sqM rfl rfl ?_
 refine sq_q (q_call (args2 rfl rfl) Tryd.call27 (fun w hw => get27 (by decide))) rfl ?_
 refine sq_q (q_add (r := 64) rfl rfl (w_i64e (by decide) (by decide) (by decide))) rfl ?_
 refine sqA rfl rfl ?_
 refine sqKR [2, 3, 11, 12, 18, 19, 20, 22, 101, 102, 103] rfl ?_
 iterate 3 refine sqM rfl rfl ?_
 refine sq_q (q_index (i := 1) (j := 1) rfl rfl Tryd.runUnderlying98 Tryd.sizeOf3 ⟨by decide, by decide⟩ rfl) rfl ?_
 refine sq_m0 (m_store rfl rfl Tryd.sizeOf3 rfl (i := 1) rfl rfl rfl (by intro h; omega)) (fun _ _ => ?_)
 refine sqK [2, 3, 11, 12, 18, 19, 20, 22, 101, 102, 103] rfl ?_
 refine sc_region ?_
 iterate 3 refine sqM rfl rfl ?_
 refine sq_q (q_index (i := 1) (j := 1) rfl rfl Tryd.runUnderlying98 Tryd.sizeOf3 ⟨by decide, by decide⟩ rfl) rfl ?_
 refine sq_q (q_load1 rfl Tryd.isAgg3 (i := 2)  rfl rfl) rfl ?_
 refine sq_q (q_add (r := 76) rfl rfl (w_i64e (by decide) (by decide) (by decide))) rfl ?_
 refine sqA rfl rfl ?_
 refine sq_nil ?_
 refine se_block ?_
 refine se_seq ?_
 refine scK [2, 3, 11, 12, 18, 19, 20, 101, 102, 103] rfl ?_
 refine sc_region ?_
 refine sq_q (q_add (r := 2) rfl rfl (w_i64e (by decide) (by decide) (by decide))) rfl ?_
 refine sqM rfl rfl ?_
 refine sq_nil ?_
 refine se_again ?_
 refine slK [2, 3, 11, 12, 18, 19, 20, 101, 102, 103] rfl ?_
 refine sl_round ?_
 refine scR ?_
 refine sq_q (q_decT (q_lss rfl rfl) (by decide)) rfl ?_
 refine sqZ ?_
 refine sc_seq ?_
 refine sc_cond_t rfl ?_
 refine scS ?_
 refine scK [2, 3, 11, 12, 18, 19, 20, 101, 102, 103] rfl ?_
 refine sc_seq ?_
 refine sc_block ?_
 refine scR ?_
 refine sq_q (q_index (i := 2) (j := 2) rfl rfl Tryd.runUnderlying98 Tryd.sizeOf3 ⟨by decide, by decide⟩ rfl) rfl ?_
 refine sq_q (q_load1 rfl Tryd.isAgg3 (i := 0)  rfl rfl) rfl ?_
 refine sqA rfl rfl ?_
 refine sqKR [2, 3, 11, 12, 18, 19, 20, 22, 101, 102, 103] rfl ?_
 refine sqM rfl rfl ?_
 refine sq_q (q_fieldj (j := 1) rfl Tryd.runUnderlying106 rfl Tryd.sizeOf98 rfl) rfl ?_
 refine sq_q (q_load1 rfl Tryd.isAgg98 (i := 5)  rfl rfl) rfl ?_
 refine sqM rfl rfl ?_
 refine sq_q (q_call (args2 rfl rfl) Tryd.call27 (fun w hw => get27 (by decide))) rfl ?_
 refine sq_q (q_add (r := 76) rfl rfl (w_i64e (by decide) (by decide) (by decide))) rfl ?_
 refine sqA rfl rfl ?_
 refine sqKR [2, 3, 11, 12, 18, 19, 20, 22, 101, 102, 103] rfl ?_
 iterate 3 refine sqM rfl rfl ?_
 refine sq_q (q_index (i := 2) (j := 2) rfl rfl Tryd.runUnderlying98 Tryd.sizeOf3 ⟨by decide, by decide⟩ rfl) rfl ?_
 refine sq_m0 (m_store rfl rfl Tryd.sizeOf3 rfl (i := 1) rfl rfl rfl (by intro h; omega)) (fun _ _ => ?_)
 refine sqK [2, 3, 11, 12, 18, 19, 20, 22, 101, 102, 103] rfl ?_
 refine sc_region ?_
 iterate 3 refine sqM rfl rfl ?_
 refine sq_q (q_index (i := 2) (j := 2) rfl rfl Tryd.runUnderlying98 Tryd.sizeOf3 ⟨by decide, by decide⟩ rfl) rfl ?_
 refine sq_q (q_load1 rfl Tryd.isAgg3 (i := 2)  rfl rfl) rfl ?_
 refine sq_q (q_add (r := 204) rfl rfl (w_i64e (by decide) (by decide) (by decide))) rfl ?_
 refine sqA rfl rfl ?_
 refine sq_nil ?_
 refine se_block ?_
 refine se_seq ?_
 refine scK [2, 3, 11, 12, 18, 19, 20, 101, 102, 103] rfl ?_
 refine sc_region ?_
 refine sq_q (q_add (r := 3) rfl rfl (w_i64e (by decide) (by decide) (by decide))) rfl ?_
 refine sqM rfl rfl ?_
 refine sq_nil ?_
 refine se_again ?_
 refine slK [2, 3, 11, 12, 18, 19, 20, 101, 102, 103] rfl ?_
 refine sl_round ?_
 refine scR ?_
 refine sq_q (q_decF (q_lss rfl rfl) (by decide)) rfl ?_
 refine sqZ ?_
 refine sc_seq ?_
 refine sc_cond_f rfl ?_
 refine sc_exit ?_
 iterate 2 refine se_then_exit ?_
 refine se_block_hit ?_
 refine se_seq ?_
 refine scK [2, 11, 12, 18, 19] rfl ?_
 refine sc_seq ?_
 refine sc_draw [0, 1, 2, 3, 4, 5, 7, 8, 9, 10, 11, 12, 13, 14, 15, 6, 16, 17, 18] [6, 16] _ mixed (by kernel_rfl) (by kernel_rfl) (List.Subset.refl _) ?_
 refine drM rfl rfl rfl ?_
 refine dr_q rfl rfl (q_fieldj (j := 7) rfl Tryd.runUnderlying104 rfl Tryd.sizeOf101 rfl) ?_
 refine dr_q rfl rfl (q_load1 rfl Tryd.isAgg101 (i := 6)  rfl rfl) ?_
 refine dr_q rfl rfl (q_len rfl Tryd.runUnderlying101) ?_
 refine dr_q rfl rfl (q_add (r := 1) rfl rfl (w_i64e (by decide) (by decide) (by decide))) ?_
 refine dr_q rfl rfl (q_slice_lh rfl rfl rfl Tryd.runUnderlying98 Tryd.sizeOf3 (by decide) (by decide) (by decide) (by decide) rfl rfl rfl) ?_
 refine drM rfl rfl rfl ?_
 refine dr_q rfl rfl (q_fieldj (j := 7) rfl Tryd.runUnderlying104 rfl Tryd.sizeOf101 rfl) ?_
 refine dr_q rfl rfl (q_load1 rfl Tryd.isAgg101 (i := 6)  rfl rfl) ?_
 refine dr_q rfl rfl (q_len rfl Tryd.runUnderlying101) ?_
 refine dr_q rfl rfl (q_add (r := 1) rfl rfl (w_i64e (by decide) (by decide) (by decide))) ?_
 refine drM rfl rfl rfl ?_
 refine dr_q rfl rfl (q_len rfl Tryd.runUnderlying98) ?_
 refine dr_q rfl rfl (q_sub (r := 2) rfl rfl (w_i64e (by decide) (by decide) (by decide))) ?_
 refine dr_q rfl rfl (q_slice_lh rfl rfl rfl Tryd.runUnderlying98 Tryd.sizeOf3 (by decide) (by decide) (by decide) (by decide) rfl rfl rfl) ?_
 refine dr_m rfl rfl (m_lit (vs := [(0, _)]) ⟨rfl, rfl, trivial⟩ (e := 3) (l := [.int .i64 0]) (fun w => by kernel_rfl)) (fun _ _ p hp => List.mem_cons_of_mem _ hp) (fun _ _ => ?_)
 refine dr_row rfl rfl (m_app_src (i := Tryd.t3) (z := .int .i64 0) (k := 1) (n := 1) (m := 1) (RowOk.lit (L := w.heap.size) (b := N3) rfl rfl (by omega) (by omega) rfl) rfl rfl (fun w1 h1 => src_at h1 Tryd.underlying98 (j := 2) rfl (news := [.int .i64 64]) rfl (by decide) rfl) (pull [_] [_, _, _, _, _, _, _] [[]]) (fun _ => List.Perm.refl _) Tryd.underlying98 (by kernel_rfl) (by kernel_rfl) t3_size (by kernel_rfl) (by omega) (bytes_fit (by omega) t3_bytes) (by omega) (by intro p hp h; rw [List.mem_singleton.1 hp] at h; dsimp only at h; omega)) (by omega) (fun p hp => hp) (fun b5 c5 N5 p5 hN5 hb5 hr5 => ?_)
 iterate 2 refine drA rfl rfl rfl ?_
 refine dr_nil ?_
 refine se_seq ?_
 refine scK [2, 11, 12, 18, 19, 23, 24] rfl ?_
 refine scR ?_
 refine sq_m (m_lit (vs := []) trivial (e := 9) (l := []) (fun w => by kernel_rfl)) rfl (fun _ _ => ?_)
 refine sqA rfl rfl ?_
 refine sqK [2, 11, 12, 18, 19, 23, 24, 25] rfl ?_
 refine sc_seq ?_
 refine scR ?_
 refine sqM rfl rfl ?_
 refine sq_q (q_len rfl Tryd.runUnderlying102) rfl ?_
 refine sqM rfl rfl ?_
 refine sqZ ?_
 refine sc_block ?_
 refine sc_rounds ?_
 refine sl_round ?_
 refine scR ?_
 refine sq_q (q_decT (q_lss rfl rfl) (by decide)) rfl ?_
 refine sqZ ?_
 refine sc_seq ?_
 refine sc_cond_t rfl ?_
 refine scS ?_
 refine scK [2, 11, 12, 18, 19, 23, 24, 25, 142, 143, 144] rfl ?_
 refine sc_seq ?_
 refine sc_block ?_
 refine scR ?_
 refine sq_q (q_index (i := 0) (j := 0) rfl rfl Tryd.runUnderlying102 Tryd.sizeOf126 ⟨by decide, by decide⟩ rfl) rfl ?_
 refine sq_q (q_loadM rfl Tryd.isAgg126 Tryd.sizeOf126 (i := 5) (vs := pt0) rfl (by simp) rfl) rfl ?_
 refine sq_m (m_alloc (l := pt0) Tryd.zeroValue126 rfl) rfl (fun _ _ => ?_)
 refine sq_m0 (m_stores (i := 0) (vs := pt0) (l' := pt0) rfl rfl Tryd.sizeOf126 rfl rfl rfl (Nat.le_refl _) rfl rfl (by intro h; omega)) (fun _ _ => ?_)
 refine sqK [2, 11, 12, 18, 19, 23, 24, 25, 27, 142, 143, 144] rfl ?_
 refine sc_region ?_
 refine sqM rfl rfl ?_
 refine sq_q (q_fieldj (j := 0) rfl Tryd.runUnderlying126 rfl Tryd.sizeOf9 rfl) rfl ?_
 refine sq_q (q_load1 rfl Tryd.isAgg9 (i := 0)  rfl rfl) rfl ?_
 refine sq_m (m_lit (vs := [(0, _)]) ⟨rfl, rfl, trivial⟩ (e := 9) (l := [.string ⟨#[]⟩]) (fun w => by kernel_rfl)) rfl (fun _ _ => ?_)
 refine sq_row (m_app_src (i := Tryd.t9) (z := .string ⟨#[]⟩) (k := 1) (n := 0) (m := 1) (RowOk.lit (L := w.heap.size) (b := N5) rfl rfl (by omega) (by omega) rfl) rfl rfl (fun w1 h1 => src_at h1 Tryd.underlying129 (j := 0) rfl (news := [.string ⟨#[]⟩]) rfl (Nat.le_refl _) rfl) (pull [_] [_, _, _, _, _, _, _, _] [[_, _]]) (fun _ => List.Perm.refl _) Tryd.underlying129 (by kernel_rfl) (by kernel_rfl) t9_size (by kernel_rfl) (by omega) (bytes_fit (by omega) t9_bytes) (by omega) (by intro p hp h; rw [List.mem_singleton.1 hp] at h; dsimp only at h; omega)) (by omega) rfl (fun b6 c6 N6 p6 hN6 hb6 hr6 => ?_)
 refine sq_mem (ms := [_, _, _, _, _, _, _, _]) (fun w1 h1 => h1.sublist (.cons_cons _ (.cons _ (.cons _ (.cons_cons _ (.cons_cons _ (.cons_cons _ (.cons _ (.cons_cons _ (.cons_cons _ (.cons_cons _ (.cons_cons _ .slnil)))))))))))) ?_
 refine sqA rfl rfl ?_
 refine sq_nil ?_
 refine se_block ?_
 refine se_seq ?_
 refine scK [2, 11, 12, 18, 19, 23, 24, 25, 142, 143, 144] rfl ?_
 refine sc_region ?_
 refine sq_q (q_add (r := 1) rfl rfl (w_i64e (by decide) (by decide) (by decide))) rfl ?_
 refine sqM rfl rfl ?_
 refine sq_nil ?_
 refine se_again ?_
 refine slK [2, 11, 12, 18, 19, 23, 24, 25, 142, 143, 144] rfl ?_
 refine sl_round ?_
 refine scR ?_
 refine sq_q (q_decT (q_lss rfl rfl) (by decide)) rfl ?_
 refine sqZ ?_
 refine sc_seq ?_
 refine sc_cond_t rfl ?_
 refine scS ?_
 refine scK [2, 11, 12, 18, 19, 23, 24, 25, 142, 143, 144] rfl ?_
 refine sc_seq ?_
 refine sc_block ?_
 refine scR ?_
 refine sq_q (q_index (i := 1) (j := 10) rfl rfl Tryd.runUnderlying102 Tryd.sizeOf126 ⟨by decide, by decide⟩ rfl) rfl ?_
 refine sq_q (q_loadM rfl Tryd.isAgg126 Tryd.sizeOf126 (i := 4) (vs := pt1 nb nc) rfl (by simp) rfl) rfl ?_
 refine sq_m (m_alloc (l := pt0) Tryd.zeroValue126 rfl) rfl (fun _ _ => ?_)
 refine sq_m0 (m_stores (i := 0) (vs := pt1 nb nc) (l' := pt1 nb nc) rfl rfl Tryd.sizeOf126 rfl rfl rfl (Nat.le_refl _) rfl rfl (by intro h; omega)) (fun _ _ => ?_)
 refine sqK [2, 11, 12, 18, 19, 23, 24, 25, 27, 142, 143, 144] rfl ?_
 refine sc_region ?_
 refine sqM rfl rfl ?_
 refine sq_q (q_fieldj (j := 0) rfl Tryd.runUnderlying126 rfl Tryd.sizeOf9 rfl) rfl ?_
 refine sq_q (q_load1 rfl Tryd.isAgg9 (i := 0)  rfl rfl) rfl ?_
 refine sq_m (m_lit (vs := [(0, _)]) ⟨rfl, rfl, trivial⟩ (e := 9) (l := [.string shB]) (fun w => by kernel_rfl)) rfl (fun _ _ => ?_)
 refine sq_row (m_app_src (i := Tryd.t9) (z := .string ⟨#[]⟩) (k := 1) (n := 1) (m := 1) hr6 rfl rfl (fun w1 h1 => src_at h1 Tryd.underlying129 (j := 0) rfl (news := [.string shB]) rfl (Nat.le_refl _) rfl) (pull [_] [_, _, _, _, _, _, _] [[_, _]]) (fun _ => List.Perm.refl _) Tryd.underlying129 (by kernel_rfl) (by kernel_rfl) t9_size (by kernel_rfl) (by omega) (bytes_fit (by omega) t9_bytes) (by omega) (by intro p hp h; rw [List.mem_singleton.1 hp] at h; dsimp only at h; omega)) (by omega) rfl (fun b7 c7 N7 p7 hN7 hb7 hr7 => ?_)
 refine sq_mem (ms := [_, _, _, _, _, _, _, _]) (fun w1 h1 => h1.sublist (.cons_cons _ (.cons _ (.cons _ (.cons_cons _ (.cons_cons _ (.cons_cons _ (.cons_cons _ (.cons_cons _ (.cons_cons _ (.cons_cons _ .slnil))))))))))) ?_
 refine sqA rfl rfl ?_
 refine sq_nil ?_
 refine se_block ?_
 refine se_seq ?_
 refine scK [2, 11, 12, 18, 19, 23, 24, 25, 142, 143, 144] rfl ?_
 refine sc_region ?_
 refine sq_q (q_add (r := 2) rfl rfl (w_i64e (by decide) (by decide) (by decide))) rfl ?_
 refine sqM rfl rfl ?_
 refine sq_nil ?_
 refine se_again ?_
 refine slK [2, 11, 12, 18, 19, 23, 24, 25, 142, 143, 144] rfl ?_
 refine sl_round ?_
 refine scR ?_
 refine sq_q (q_decF (q_lss rfl rfl) (by decide)) rfl ?_
 refine sqZ ?_
 refine sc_seq ?_
 refine sc_cond_f rfl ?_
 refine sc_exit ?_
 iterate 2 refine se_then_exit ?_
 refine se_block_hit ?_
 refine se_seq ?_
 refine scK [2, 11, 12, 18, 19, 23, 24, 25] rfl ?_
 refine scR ?_
 refine sqM rfl rfl ?_
 refine sq_names (j := 0) rfl rfl rfl (fun nb2 nc2 tb2 tc2 NB np2 tp2 hNB hnb2 htb2 hrn2 hrt2 => ?_)
 refine sqM rfl rfl ?_
 iterate 2 refine sq_q (q_extract rfl rfl) rfl ?_
 iterate 2 refine sqA rfl rfl ?_
 refine sqKR [2, 11, 12, 18, 19, 23, 24, 29] rfl ?_
 refine sqM rfl rfl ?_
 refine sq_q (q_index (i := 0) (j := 0) rfl rfl Tryd.runUnderlying98 Tryd.sizeOf3 ⟨by decide, by decide⟩ rfl) rfl ?_
 refine sq_m0 (m_store rfl rfl Tryd.sizeOf3 rfl (i := 1) rfl rfl rfl (by intro h; omega)) (fun _ _ => ?_)
 refine sqK [2, 11, 12, 18, 19, 23, 24, 29] rfl ?_
 refine sc_seq ?_
 refine sc_mem (ms := [_, _, _, _, _, _, _, _]) (fun w1 h1 => h1.sublist (.cons _ (.cons_cons _ (.cons _ (.cons_cons _ (.cons_cons _ (.cons_cons _ (.cons_cons _ (.cons_cons _ (.cons_cons _ (.cons_cons _ .slnil))))))))))) ?_
 refine sc_region ?_
 refine sqM rfl rfl ?_
 refine sq_q (q_len rfl Tryd.runUnderlying98) rfl ?_
 refine sq_m (m_make (len := 3) (cap := 3) rfl rfl Tryd.underlying27 (by kernel_rfl) (i := Tryd.t22) (z := .slice none 0 0) (by kernel_rfl) t22_size rfl (Nat.le_refl _) t22_byte2 (by decide)) rfl (fun _ _ => ?_)
 refine sqA rfl rfl ?_
 refine sqK [2, 11, 18, 19, 23, 24, 29, 30] rfl ?_
 refine sc_seq ?_
 refine scR ?_
 refine sq_q (q_fieldj (j := 7) rfl Tryd.runUnderlying104 rfl Tryd.sizeOf101 rfl) rfl ?_
 refine sq_q (q_load1 rfl Tryd.isAgg101 (i := 8)  rfl rfl) rfl ?_
 refine sq_q (q_len rfl Tryd.runUnderlying101) rfl ?_
 refine sqM rfl rfl ?_
 refine sqK [2, 11, 18, 19, 23, 24, 29, 30, 165, 166, 167] rfl ?_
 refine sc_block ?_
 refine sc_rounds ?_
 refine sl_round ?_
 refine scR ?_
 refine sq_q (q_decF (q_lss rfl rfl) (by decide)) rfl ?_
 refine sqZ ?_
 refine sc_seq ?_
 refine sc_cond_f rfl ?_
 refine sc_exit ?_
 iterate 2 refine se_then_exit ?_
 refine se_block_hit ?_
 refine se_seq ?_
 refine scK [2, 11, 18, 19, 23, 24, 29, 30] rfl ?_
 refine sc_seq ?_
 refine scR ?_
 refine sqM rfl rfl ?_
 refine sq_q (q_len rfl Tryd.runUnderlying102) rfl ?_
 refine sqM rfl rfl ?_
 refine sqZ ?_
 refine sc_block ?_
 refine sc_rounds ?_
 refine sl_round ?_
 refine scR ?_
 refine sq_q (q_decT (q_lss rfl rfl) (by decide)) rfl ?_
 refine sqZ ?_
 refine sc_seq ?_
 refine sc_cond_t rfl ?_
 refine scS ?_
 refine scK [2, 11, 18, 19, 23, 24, 29, 30, 192, 193, 194] rfl ?_
 refine sc_seq ?_
 refine sc_block ?_
 refine scR ?_
 refine sqM rfl rfl ?_
 refine sq_q (q_index (i := 0) (j := 0) rfl rfl Tryd.runUnderlying102 Tryd.sizeOf126 ⟨by decide, by decide⟩ rfl) rfl ?_
 refine sq_q (q_loadM rfl Tryd.isAgg126 Tryd.sizeOf126 (i := 5) (vs := pt0) rfl (by simp) rfl) rfl ?_
 refine sq_m (m_alloc (l := pt0) Tryd.zeroValue126 rfl) rfl (fun _ _ => ?_)
 refine sqA rfl rfl ?_
 refine sq_m0 (m_stores (i := 0) (vs := pt0) (l' := pt0) rfl rfl Tryd.sizeOf126 rfl rfl rfl (Nat.le_refl _) rfl rfl (by intro h; omega)) (fun _ _ => ?_)
 refine sqK [2, 11, 18, 19, 23, 24, 29, 30, 33, 34, 192, 193, 194] rfl ?_
 refine sc_seq ?_
 refine scR ?_
 refine sqM rfl rfl ?_
 refine sq_q (q_decF (q_gtr rfl rfl) (by decide)) rfl ?_
 refine sqM rfl rfl ?_
 iterate 3 refine sq_gn rfl rfl rfl rfl ?_
 refine sqF rfl rfl rfl ?_
 refine sqK [2, 11, 18, 19, 23, 24, 29, 30, 33, 34, 192, 193, 194, 202, 203, 204, 205] rfl ?_
 refine sc_cond_f rfl ?_
 refine scS ?_
 refine scK [2, 11, 18, 19, 23, 24, 29, 30, 33, 34, 192, 193, 194, 202, 203, 204] rfl ?_
 refine sc_mem (ms := [_, _, _, _, _, _, _, _, _]) (fun w1 h1 => h1.sublist (.cons_cons _ (.cons_cons _ (.cons_cons _ (.cons_cons _ (.cons_cons _ (.cons_cons _ (.cons_cons _ (.cons_cons _ (.cons _ (.cons_cons _ .slnil))))))))))) ?_
 refine sc_draw [0, 1, 2, 3, 4, 5, 6, 7, 8, 9, 10, 11, 12, 13, 14, 15, 16, 17, 18, 19, 20, 21, 22, 23] [20, 21, 23] _ mixed (by kernel_rfl) (by kernel_rfl) (List.Sublist.subset (.cons_cons _ (.cons_cons _ (.cons_cons _ (.cons_cons _ (.cons_cons _ (.cons_cons _ (.cons_cons _ (.cons_cons _ (.cons_cons _ .slnil)))))))))) ?_
 iterate 2 refine drM rfl rfl rfl ?_
 refine dr_q rfl rfl (q_len rfl Tryd.runUnderlying27) ?_
 refine dr_q rfl rfl (q_sub (r := 2) rfl rfl (w_i64e (by decide) (by decide) (by decide))) ?_
 iterate 2 refine drM rfl rfl rfl ?_
 refine dr_q rfl rfl (q_len rfl Tryd.runUnderlying27) ?_
 refine dr_q rfl rfl (q_sub (r := 2) rfl rfl (w_i64e (by decide) (by decide) (by decide))) ?_
 refine dr_q rfl rfl (q_index (i := 2) (j := 2) rfl rfl Tryd.runUnderlying27 Tryd.sizeOf22 ⟨by decide, by decide⟩ rfl) ?_
 refine dr_q rfl rfl (q_load1 rfl Tryd.isAgg22 (i := 1)  rfl rfl) ?_
 refine dr_q rfl rfl (q_loadK rfl Tryd.isAgg104 Tryd.sizeOf104 (i := 8) (vs := [.bool true, .bool false, .int .u8 0, .int .u8 0, .int .i64 1, .int .i64 0, .int .u64 0, .slice none 0 0, .slice none 0 0]) rfl rfl) ?_
 iterate 2 refine drM rfl rfl rfl ?_
 refine dr_q rfl rfl (q_index (i := 0) (j := 0) rfl rfl Tryd.runUnderlying98 Tryd.sizeOf3 ⟨by decide, by decide⟩ rfl) ?_
 refine dr_q rfl rfl (q_load1 rfl Tryd.isAgg3 (i := 2)  rfl rfl) ?_
 refine dr_q rfl rfl (q_loadK rfl Tryd.isAgg126 Tryd.sizeOf126 (i := 0) (vs := pt0) rfl rfl) ?_
 iterate 2 refine drM rfl rfl rfl ?_
 refine dr_q rfl rfl (q_index (i := 0) (j := 0) rfl rfl Tryd.runUnderlying98 Tryd.sizeOf3 ⟨by decide, by decide⟩ rfl) ?_
 refine dr_q rfl rfl (q_load1 rfl Tryd.isAgg3 (i := 3)  rfl rfl) ?_
 refine dr_row rfl rfl (fresh_inv (args4 rfl rfl rfl rfl) Tryd.call30 (fun w1 hw1 => secrow64 (nm := ⟨#[]⟩) (name := 0) (tp := 0) (al := 0) (dl := 0) (dc := 0) (off := 0) (ad := none) (by decide) (by decide) (by decide) (by decide) (by decide) (by decide))) (by decide) (List.Sublist.subset (.cons_cons _ (.cons_cons _ (.cons_cons _ (.cons_cons _ (.cons_cons _ (.cons_cons _ (.cons_cons _ (.cons_cons _ (.cons_cons _ .slnil)))))))))) (fun b10 c10 N10 p10 hN10 hb10 hr10 => ?_)
 refine dr_row rfl rfl (m_app_src (i := Tryd.t5) (z := .int .u8 0) (k := 1) (n := 0) (m := 64) (hrn0 (L := w.heap.size)) rfl rfl (fun w1 h1 => src_row h1 Tryd.underlying22 (j := 0) rfl hr10.1 (one_bytes _)) (List.Perm.refl _) (fun _ => List.Perm.refl _) Tryd.underlying22 (by kernel_rfl) (by kernel_rfl) t5_size (by kernel_rfl) (by omega) (bytes_fit (by omega) t5_byte2) (by omega) (fun p hp => absurd hp List.not_mem_nil)) (by omega) (fun p hp => List.mem_cons_of_mem _ hp) (fun b11 c11 N11 p11 hN11 hb11 hr11 => ?_)
 refine dr_q rfl rfl (q_index (i := 2) (j := 2) rfl rfl Tryd.runUnderlying27 Tryd.sizeOf22 ⟨by decide, by decide⟩ rfl) ?_
 refine dr_m0l rfl rfl (m_store rfl rfl Tryd.sizeOf22 rfl (i := 3) rfl rfl rfl (by intro h; omega)) (by kernel_rfl) (fun _ _ => ?_)
 refine dr_nil ?_
 refine se_block ?_
 refine se_seq ?_
 refine scK [2, 11, 18, 19, 23, 24, 29, 30, 192, 193, 194, 202, 203, 204] rfl ?_
 refine sc_region ?_
 refine sq_q (q_add (r := 1) rfl rfl (w_i64e (by decide) (by decide) (by decide))) rfl ?_
 refine sqM rfl rfl ?_
 refine sq_nil ?_
 refine se_again ?_
 refine slK [2, 11, 18, 19, 23, 24, 29, 30, 192, 193, 194, 202, 203, 204] rfl ?_
 refine sl_round ?_
 refine scR ?_
 refine sq_q (q_decT (q_lss rfl rfl) (by decide)) rfl ?_
 refine sqZ ?_
 refine sc_seq ?_
 refine sc_cond_t rfl ?_
 refine scS ?_
 refine scK [2, 11, 18, 19, 23, 24, 29, 30, 192, 193, 194, 202, 203, 204] rfl ?_
 refine sc_seq ?_
 refine sc_block ?_
 refine scR ?_
 refine sqM rfl rfl ?_
 refine sq_q (q_index (i := 1) (j := 10) rfl rfl Tryd.runUnderlying102 Tryd.sizeOf126 ⟨by decide, by decide⟩ rfl) rfl ?_
 refine sq_q (q_loadM rfl Tryd.isAgg126 Tryd.sizeOf126 (i := 8) (vs := pt1 nb nc) rfl (by simp) rfl) rfl ?_
 refine sq_m (m_alloc (l := pt0) Tryd.zeroValue126 rfl) rfl (fun _ _ => ?_)
 refine sqA rfl rfl ?_
 refine sq_m0 (m_stores (i := 0) (vs := pt1 nb nc) (l' := pt1 nb nc) rfl rfl Tryd.sizeOf126 rfl rfl rfl (Nat.le_refl _) rfl rfl (by intro h; omega)) (fun _ _ => ?_)
 refine sqK [2, 11, 18, 19, 23, 24, 29, 30, 33, 34, 192, 193, 194, 202, 203, 204] rfl ?_
 refine sc_seq ?_
 refine scR ?_
 refine sqM rfl rfl ?_
 refine sq_q (q_decT (q_gtr rfl rfl) (by decide)) rfl ?_
 refine sqM rfl rfl ?_
 refine sq_gy rfl rfl rfl ?_
 refine sq_q (q_fieldj (j := 1) rfl Tryd.runUnderlying126 rfl Tryd.sizeOf74 rfl) rfl ?_
 refine sq_gy rfl rfl rfl ?_
 refine sq_q (q_load1 rfl Tryd.isAgg74 (i := 0)  rfl rfl) rfl ?_
 refine sq_gy rfl rfl rfl ?_
 refine sq_q (q_decT (q_neq rfl rfl) (by decide)) rfl ?_
 refine sqT rfl rfl rfl ?_
 refine sqK [2, 11, 18, 19, 23, 24, 29, 30, 33, 34, 192, 193, 194, 202, 203, 204, 205] rfl ?_
 refine sc_cond_t rfl ?_
 refine sc_region ?_
 refine sqM rfl rfl ?_
 refine sq_q (q_fieldj (j := 7) rfl Tryd.runUnderlying104 rfl Tryd.sizeOf101 rfl) rfl ?_
 refine sq_q (q_load1 rfl Tryd.isAgg101 (i := 11)  rfl rfl) rfl ?_
 refine sq_q (q_len rfl Tryd.runUnderlying101) rfl ?_
 refine sqM rfl rfl ?_
 refine sq_q (q_add (r := 1) rfl rfl (w_i64e (by decide) (by decide) (by decide))) rfl ?_
 refine sq_q (q_fieldj (j := 9) rfl Tryd.runUnderlying126 rfl Tryd.sizeOf22 rfl) rfl ?_
 refine sq_q (q_load1 rfl Tryd.isAgg22 (i := 0)  rfl rfl) rfl ?_
 refine sq_q (q_index (i := 1) (j := 1) rfl rfl Tryd.runUnderlying27 Tryd.sizeOf22 ⟨by decide, by decide⟩ rfl) rfl ?_
 refine sq_m0 (m_store rfl rfl Tryd.sizeOf22 rfl (i := 4) rfl rfl rfl (by intro h; omega)) (fun _ _ => ?_)
 refine sqK [2, 11, 18, 19, 23, 24, 29, 30, 33, 34, 192, 193, 194, 202, 203, 204] rfl ?_
 refine sc_mem (ms := [_, _, _, _, _, _, _, _, _, _, _]) (fun w1 h1 => h1.sublist (.cons_cons _ (.cons_cons _ (.cons _ (.cons_cons _ (.cons_cons _ (.cons_cons _ (.cons_cons _ (.cons_cons _ (.cons_cons _ (.cons_cons _ (.cons_cons _ (.cons_cons _ .slnil))))))))))))) ?_
 refine sc_draw [0, 1, 2, 3, 4, 5, 6, 7, 8, 9, 10, 11, 12, 13, 14, 15, 16, 17, 18, 19, 20, 21, 22, 23] [20, 21, 23] _ mixed (by kernel_rfl) (by kernel_rfl) (List.Sublist.subset (.cons_cons _ (.cons _ (.cons_cons _ (.cons_cons _ (.cons_cons _ (.cons_cons _ (.cons_cons _ (.cons_cons _ (.cons_cons _ (.cons_cons _ (.cons_cons _ .slnil)))))))))))) ?_
 iterate 2 refine drM rfl rfl rfl ?_
 refine dr_q rfl rfl (q_len rfl Tryd.runUnderlying27) ?_
 refine dr_q rfl rfl (q_sub (r := 2) rfl rfl (w_i64e (by decide) (by decide) (by decide))) ?_
 iterate 2 refine drM rfl rfl rfl ?_
 refine dr_q rfl rfl (q_len rfl Tryd.runUnderlying27) ?_
 refine dr_q rfl rfl (q_sub (r := 2) rfl rfl (w_i64e (by decide) (by decide) (by decide))) ?_
 refine dr_q rfl rfl (q_index (i := 2) (j := 2) rfl rfl Tryd.runUnderlying27 Tryd.sizeOf22 ⟨by decide, by decide⟩ rfl) ?_
 refine dr_q rfl rfl (q_load1 rfl Tryd.isAgg22 (i := 2)  rfl rfl) ?_
 refine dr_q rfl rfl (q_loadK rfl Tryd.isAgg104 Tryd.sizeOf104 (i := 9) (vs := [.bool true, .bool false, .int .u8 0, .int .u8 0, .int .i64 1, .int .i64 0, .int .u64 0, .slice none 0 0, .slice none 0 0]) rfl rfl) ?_
 iterate 2 refine drM rfl rfl rfl ?_
 refine dr_q rfl rfl (q_index (i := 1) (j := 1) rfl rfl Tryd.runUnderlying98 Tryd.sizeOf3 ⟨by decide, by decide⟩ rfl) ?_
 refine dr_q rfl rfl (q_load1 rfl Tryd.isAgg3 (i := 3)  rfl rfl) ?_
 refine dr_q rfl rfl (q_loadK rfl Tryd.isAgg126 Tryd.sizeOf126 (i := 0) (vs := pt1 nb nc) rfl rfl) ?_
 iterate 2 refine drM rfl rfl rfl ?_
 refine dr_q rfl rfl (q_index (i := 1) (j := 1) rfl rfl Tryd.runUnderlying98 Tryd.sizeOf3 ⟨by decide, by decide⟩ rfl) ?_
 refine dr_q rfl rfl (q_load1 rfl Tryd.isAgg3 (i := 4)  rfl rfl) ?_
 refine dr_row rfl rfl (fresh_inv (args4 rfl rfl rfl rfl) Tryd.call30 (fun w1 hw1 => secrow64 (nm := shB) (name := 2) (tp := 3) (al := 1) (dl := 12) (dc := nc) (off := 64) (ad := some ⟨nb, 0, none⟩) (by decide) (by decide) (by decide) (by decide) (by decide) (by decide))) (by decide) (List.Sublist.subset (.cons_cons _ (.cons _ (.cons_cons _ (.cons_cons _ (.cons_cons _ (.cons_cons _ (.cons_cons _ (.cons_cons _ (.cons_cons _ (.cons_cons _ (.cons_cons _ .slnil)))))))))))) (fun b14 c14 N14 p14 hN14 hb14 hr14 => ?_)
 refine dr_row rfl rfl (m_app_src (i := Tryd.t5) (z := .int .u8 0) (k := 1) (n := 64) (m := 64) hr11 rfl rfl (fun w1 h1 => src_row h1 Tryd.underlying22 (j := 0) rfl hr14.1 (one_bytes _)) (pull [_] [_, _, _, _, _, _, _, _, _] [[_, _]]) (fun _ => List.Perm.refl _) Tryd.underlying22 (by kernel_rfl) (by kernel_rfl) t5_size (by kernel_rfl) (by omega) (bytes_fit (by omega) t5_byte2) (by omega) (by intro p hp h; rw [List.mem_singleton.1 hp] at h; dsimp only at h; omega)) (by omega) (fun p hp => List.mem_cons_of_mem _ hp) (fun b15 c15 N15 p15 hN15 hb15 hr15 => ?_)
 refine dr_q rfl rfl (q_index (i := 2) (j := 2) rfl rfl Tryd.runUnderlying27 Tryd.sizeOf22 ⟨by decide, by decide⟩ rfl) ?_
 refine dr_m0l rfl rfl (m_store rfl rfl Tryd.sizeOf22 rfl (i := 4) rfl rfl rfl (by intro h; omega)) (by kernel_rfl) (fun _ _ => ?_)
 refine dr_nil ?_
 refine se_block ?_
 refine se_seq ?_
 refine scK [2, 11, 18, 19, 23, 24, 29, 30, 192, 193, 194, 202, 203, 204] rfl ?_
 refine sc_region ?_
 refine sq_q (q_add (r := 2) rfl rfl (w_i64e (by decide) (by decide) (by decide))) rfl ?_
 refine sqM rfl rfl ?_
 refine sq_nil ?_
 refine se_again ?_
 refine slK [2, 11, 18, 19, 23, 24, 29, 30, 192, 193, 194, 202, 203, 204] rfl ?_
 refine sl_round ?_
 refine scR ?_
 refine sq_q (q_decF (q_lss rfl rfl) (by decide)) rfl ?_
 refine sqZ ?_
 refine sc_seq ?_
 refine sc_cond_f rfl ?_
 refine sc_exit ?_
 iterate 2 refine se_then_exit ?_
 refine se_block_hit ?_
 refine se_seq ?_
 refine scK [2, 11, 18, 19, 23, 24, 30] rfl ?_
 refine sc_seq ?_
 refine sc_mem (ms := [_, _, _, _, _, _]) (fun w1 h1 => h1.sublist (.cons_cons _ (.cons _ (.cons _ (.cons _ (.cons_cons _ (.cons _ (.cons _ (.cons_cons _ (.cons_cons _ (.cons _ (.cons_cons _ (.cons_cons _ .slnil))))))))))))) ?_
 refine sc_draw [0, 1, 2, 3, 4, 5, 6, 7, 8, 9, 10, 11, 12, 13, 14, 15, 16] [15] _ mixed (by kernel_rfl) (by kernel_rfl) (List.Subset.refl _) ?_
 refine dr_q rfl rfl (q_loadK rfl Tryd.isAgg104 Tryd.sizeOf104 (i := 5) (vs := [.bool true, .bool false, .int .u8 0, .int .u8 0, .int .i64 1, .int .i64 0, .int .u64 0, .slice none 0 0, .slice none 0 0]) rfl rfl) ?_
 refine dr_q rfl rfl (q_fieldj (j := 7) rfl Tryd.runUnderlying104 rfl Tryd.sizeOf101 rfl) ?_
 refine dr_q rfl rfl (q_load1 rfl Tryd.isAgg101 (i := 5)  rfl rfl) ?_
 refine dr_q rfl rfl (q_len rfl Tryd.runUnderlying101) ?_
 refine drM rfl rfl rfl ?_
 refine dr_q rfl rfl (q_index (i := 0) (j := 0) rfl rfl Tryd.runUnderlying98 Tryd.sizeOf3 ⟨by decide, by decide⟩ rfl) ?_
 refine dr_q rfl rfl (q_load1 rfl Tryd.isAgg3 (i := 3)  rfl rfl) ?_
 refine drM rfl rfl rfl ?_
 refine dr_q rfl rfl (q_len rfl Tryd.runUnderlying102) ?_
 iterate 2 refine drM rfl rfl rfl ?_
 refine dr_q rfl rfl (q_len rfl Tryd.runUnderlying98) ?_
 refine dr_q rfl rfl (q_sub (r := 2) rfl rfl (w_i64e (by decide) (by decide) (by decide))) ?_
 refine dr_q rfl rfl (q_index (i := 2) (j := 2) rfl rfl Tryd.runUnderlying98 Tryd.sizeOf3 ⟨by decide, by decide⟩ rfl) ?_
 refine dr_q rfl rfl (q_load1 rfl Tryd.isAgg3 (i := 3)  rfl rfl) ?_
 refine dr_row rfl rfl (fresh_inv (args5 rfl rfl rfl rfl rfl) Tryd.call31 (fun w1 hw1 => header64)) (by decide) (fun p hp => hp) (fun b17 c17 N17 p17 hN17 hb17 hr17 => ?_)
 refine drA rfl rfl rfl ?_
 refine dr_nil ?_
 refine se_seq ?_
 refine scK [18, 19, 23, 24, 30, 35] rfl ?_
 refine sc_seq ?_
 refine scR ?_
 refine sqM rfl rfl ?_
 refine sq_q (q_len rfl Tryd.runUnderlying98) rfl ?_
 refine sqM rfl rfl ?_
 refine sqK [18, 23, 24, 30, 35, 255, 256, 257] rfl ?_
 refine sc_block ?_
 refine sc_rounds ?_
 refine sl_round ?_
 refine scR ?_
 refine sq_q (q_decT (q_lss rfl rfl) (by decide)) rfl ?_
 refine sqZ ?_
 refine sc_seq ?_
 refine sc_cond_t rfl ?_
 refine scS ?_
 refine scK [18, 23, 24, 30, 35, 255, 256, 257] rfl ?_
 refine sc_seq ?_
 refine sc_block ?_
 refine scR ?_
 refine sq_q (q_index (i := 0) (j := 0) rfl rfl Tryd.runUnderlying98 Tryd.sizeOf3 ⟨by decide, by decide⟩ rfl) rfl ?_
 refine sq_q (q_load1 rfl Tryd.isAgg3 (i := 3)  rfl rfl) rfl ?_
 refine sqA rfl rfl ?_
 refine sqK [18, 23, 24, 30, 35, 37, 255, 256, 257] rfl ?_
 refine sc_seq ?_
 refine sc_block ?_
 refine sc_rounds ?_
 refine sl_round ?_
 refine sc_seq ?_
 refine scR ?_
 refine sqM rfl rfl ?_
 refine sq_q (q_len rfl Tryd.runUnderlying22) rfl ?_
 iterate 2 refine sqM rfl rfl ?_
 refine sq_q (q_index (i := 0) (j := 0) rfl rfl Tryd.runUnderlying98 Tryd.sizeOf3 ⟨by decide, by decide⟩ rfl) rfl ?_
 refine sq_q (q_load1 rfl Tryd.isAgg3 (i := 4)  rfl rfl) rfl ?_
 refine sq_q (q_decF (q_lss rfl rfl) (by decide)) rfl ?_
 refine sqK [18, 23, 24, 30, 35, 37, 255, 256, 257, 267] rfl ?_
 refine sc_cond_f rfl ?_
 refine sc_exit ?_
 iterate 2 refine se_then_exit ?_
 refine se_block_hit ?_
 refine se_seq ?_
 refine scK [18, 23, 24, 30, 35, 37, 255, 256, 257] rfl ?_
 refine sc_region ?_
 iterate 3 refine sqM rfl rfl ?_
 refine sq_q (q_index (i := 0) (j := 0) rfl rfl Tryd.runUnderlying27 Tryd.sizeOf22 ⟨by decide, by decide⟩ rfl) rfl ?_
 refine sq_q (q_load1 rfl Tryd.isAgg22 (i := 2)  rfl rfl) rfl ?_
 refine sq_row (m_app_src (i := Tryd.t5) (z := .int .u8 0) (k := 1) (n := 64) (m := 0) hr17 rfl rfl (fun w1 h1 => Src.ofNil w1 Tryd.underlying22 0) (pull [_] [_, _, _, _, _, _] [[]]) (fun _ => List.Perm.refl _) Tryd.underlying22 (by kernel_rfl) (by kernel_rfl) t5_size (by kernel_rfl) (by omega) (bytes_fit (by omega) t5_byte2) (by omega) (by intro p hp h; rw [List.mem_singleton.1 hp] at h; dsimp only at h; omega)) (by omega) rfl (fun b18 c18 N18 p18 hN18 hb18 hr18 => ?_)
 refine sqA rfl rfl ?_
 refine sq_nil ?_
 refine se_block ?_
 refine se_seq ?_
 refine scK [18, 23, 24, 30, 35, 255, 256, 257] rfl ?_
 refine sc_region ?_
 refine sq_q (q_add (r := 1) rfl rfl (w_i64e (by decide) (by decide) (by decide))) rfl ?_
 refine sqM rfl rfl ?_
 refine sq_nil ?_
 refine se_again ?_
 refine slK [18, 23, 24, 30, 35, 255, 256, 257] rfl ?_
 refine sl_round ?_
 refine scR ?_
 refine sq_q (q_decT (q_lss rfl rfl) (by decide)) rfl ?_
 refine sqZ ?_
 refine sc_seq ?_
 refine sc_cond_t rfl ?_
 refine scS ?_
 refine scK [18, 23, 24, 30, 35, 255, 256, 257] rfl ?_
 refine sc_seq ?_
 refine sc_block ?_
 refine scR ?_
 refine sq_q (q_index (i := 1) (j := 1) rfl rfl Tryd.runUnderlying98 Tryd.sizeOf3 ⟨by decide, by decide⟩ rfl) rfl ?_
 refine sq_q (q_load1 rfl Tryd.isAgg3 (i := 3)  rfl rfl) rfl ?_
 refine sqA rfl rfl ?_
 refine sqK [18, 23, 24, 30, 35, 37, 255, 256, 257] rfl ?_
 refine sc_seq ?_
 refine sc_block ?_
 refine sc_rounds ?_
 refine sl_round ?_
 refine sc_seq ?_
 refine scR ?_
 refine sqM rfl rfl ?_
 refine sq_q (q_len rfl Tryd.runUnderlying22) rfl ?_
 iterate 2 refine sqM rfl rfl ?_
 refine sq_q (q_index (i := 1) (j := 1) rfl rfl Tryd.runUnderlying98 Tryd.sizeOf3 ⟨by decide, by decide⟩ rfl) rfl ?_
 refine sq_q (q_load1 rfl Tryd.isAgg3 (i := 4)  rfl rfl) rfl ?_
 refine sq_q (q_decF (q_lss rfl rfl) (by decide)) rfl ?_
 refine sqK [18, 23, 24, 30, 35, 37, 255, 256, 257, 267] rfl ?_
 refine sc_cond_f rfl ?_
 refine sc_exit ?_
 iterate 2 refine se_then_exit ?_
 refine se_block_hit ?_
 refine se_seq ?_
 refine scK [18, 23, 24, 30, 35, 37, 255, 256, 257] rfl ?_
 refine sc_region ?_
 iterate 3 refine sqM rfl rfl ?_
 refine sq_q (q_index (i := 1) (j := 1) rfl rfl Tryd.runUnderlying27 Tryd.sizeOf22 ⟨by decide, by decide⟩ rfl) rfl ?_
 refine sq_q (q_load1 rfl Tryd.isAgg22 (i := 2)  rfl rfl) rfl ?_
 refine sq_row (m_app_src (i := Tryd.t5) (z := .int .u8 0) (k := 1) (n := 64) (m := 12) hr18 rfl rfl (fun w1 h1 => src_row h1 Tryd.underlying22 (j := 5) rfl rfl (one_bytes _)) (pull [_] [_, _, _, _, _, _] [[]]) (fun _ => List.Perm.refl _) Tryd.underlying22 (by kernel_rfl) (by kernel_rfl) t5_size (by kernel_rfl) (by omega) (bytes_fit (by omega) t5_byte2) (by omega) (by intro p hp h; rw [List.mem_singleton.1 hp] at h; dsimp only at h; omega)) (by omega) rfl (fun b19 c19 N19 p19 hN19 hb19 hr19 => ?_)
 refine sqA rfl rfl ?_
 refine sq_nil ?_
 refine se_block ?_
 refine se_seq ?_
 refine scK [18, 23, 24, 30, 35, 255, 256, 257] rfl ?_
 refine sc_region ?_
 refine sq_q (q_add (r := 2) rfl rfl (w_i64e (by decide) (by decide) (by decide))) rfl ?_
 refine sqM rfl rfl ?_
 refine sq_nil ?_
 refine se_again ?_
 refine slK [18, 23, 24, 30, 35, 255, 256, 257] rfl ?_
 refine sl_round ?_
 refine scR ?_
 refine sq_q (q_decT (q_lss rfl rfl) (by decide)) rfl ?_
 refine sqZ ?_
 refine sc_seq ?_
 refine sc_cond_t rfl ?_
 refine scS ?_
 refine scK [18, 23, 24, 30, 35, 255, 256, 257] rfl ?_
 refine sc_seq ?_
 refine sc_block ?_
 refine scR ?_
 refine sq_q (q_index (i := 2) (j := 2) rfl rfl Tryd.runUnderlying98 Tryd.sizeOf3 ⟨by decide, by decide⟩ rfl) rfl ?_
 refine sq_q (q_load1 rfl Tryd.isAgg3 (i := 3)  rfl rfl) rfl ?_
 refine sqA rfl rfl ?_
 refine sqK [18, 23, 24, 30, 35, 37, 255, 256, 257] rfl ?_
 refine sc_seq ?_
 refine sc_block ?_
 refine sc_rounds ?_
 refine sl_round ?_
 refine sc_seq ?_
 refine scR ?_
 refine sqM rfl rfl ?_
 refine sq_q (q_len rfl Tryd.runUnderlying22) rfl ?_
 iterate 2 refine sqM rfl rfl ?_
 refine sq_q (q_index (i := 2) (j := 2) rfl rfl Tryd.runUnderlying98 Tryd.sizeOf3 ⟨by decide, by decide⟩ rfl) rfl ?_
 refine sq_q (q_load1 rfl Tryd.isAgg3 (i := 4)  rfl rfl) rfl ?_
 refine sq_q (q_decF (q_lss rfl rfl) (by decide)) rfl ?_
 refine sqK [18, 23, 24, 30, 35, 37, 255, 256, 257, 267] rfl ?_
 refine sc_cond_f rfl ?_
 refine sc_exit ?_
 iterate 2 refine se_then_exit ?_
 refine se_block_hit ?_
 refine se_seq ?_
 refine scK [18, 23, 24, 30, 35, 37, 255, 256, 257] rfl ?_
 refine sc_region ?_
 iterate 3 refine sqM rfl rfl ?_
 refine sq_q (q_index (i := 2) (j := 2) rfl rfl Tryd.runUnderlying27 Tryd.sizeOf22 ⟨by decide, by decide⟩ rfl) rfl ?_
 refine sq_q (q_load1 rfl Tryd.isAgg22 (i := 2)  rfl rfl) rfl ?_
 refine sq_row (m_app_src (i := Tryd.t5) (z := .int .u8 0) (k := 1) (n := 76) (m := 128) hr19 rfl rfl (fun w1 h1 => src_row h1 Tryd.underlying22 (j := 1) rfl hr15.1 (by rw [List.all_append, List.nil_append, one_bytes, one_bytes]; rfl)) (pull [_] [_, _, _, _, _, _] [[]]) (fun _ => List.Perm.refl _) Tryd.underlying22 (by kernel_rfl) (by kernel_rfl) t5_size (by kernel_rfl) (by omega) (bytes_fit (by omega) t5_byte2) (by omega) (by intro p hp h; rw [List.mem_singleton.1 hp] at h; dsimp only at h; omega)) (by omega) rfl (fun b20 c20 N20 p20 hN20 hb20 hr20 => ?_)
 refine sqA rfl rfl ?_
 refine sq_nil ?_
 refine se_block ?_
 refine se_seq ?_
 refine scK [18, 23, 24, 30, 35, 255, 256, 257] rfl ?_
 refine sc_region ?_
 refine sq_q (q_add (r := 3) rfl rfl (w_i64e (by decide) (by decide) (by decide))) rfl ?_
 refine sqM rfl rfl ?_
 refine sq_nil ?_
 refine se_again ?_
 refine slK [18, 23, 24, 30, 35, 255, 256, 257] rfl ?_
 refine sl_round ?_
 refine scR ?_
 refine sq_q (q_decF (q_lss rfl rfl) (by decide)) rfl ?_
 refine sqZ ?_
 refine sc_seq ?_
 refine sc_cond_f rfl ?_
 refine sc_exit ?_
 iterate 2 refine se_then_exit ?_
 refine se_block_hit ?_
 refine se_seq ?_
 refine scK [18, 23, 24, 35] rfl ?_
 refine sc_seq ?_
 refine sc_draw [0, 1, 2, 3, 4, 5, 6, 7, 8, 9, 10, 11, 12] [] _ mixed (by kernel_rfl) (by kernel_rfl) (List.Subset.refl _) ?_
 iterate 5 refine drM rfl rfl rfl ?_
 refine dr_q rfl rfl (q_len rfl Tryd.runUnderlying98) ?_
 refine dr_q rfl rfl (q_sub (r := 2) rfl rfl (w_i64e (by decide) (by decide) (by decide))) ?_
 refine dr_q rfl rfl (q_index (i := 2) (j := 2) rfl rfl Tryd.runUnderlying98 Tryd.sizeOf3 ⟨by decide, by decide⟩ rfl) ?_
 refine dr_q rfl rfl (q_load1 rfl Tryd.isAgg3 (i := 4)  rfl rfl) ?_
 iterate 4 refine drA rfl rfl rfl ?_
 refine dr_nil ?_
 refine se_seq ?_
 refine scK [4, 5, 6, 7] rfl ?_
 refine sc_ret ?_
 exact se_end (res4 Tryd.results17 rfl rfl rfl rfl) (fun w' hw => ⟨_, _, _, _, _, _, rfl, hr20, hw.eff, hw.has _ (List.mem_of_getElem? (i := 0) rfl)⟩)

end Go.Proofs.YtgkjnkhoopcjgaaDoor
/- laws.same: two rows of the same bytes. Conditions: both rows lie in memory, and their bytes too. -/
namespace Go.Proofs.YtgkjnkhoopcjgaaDoor
open Go.Sx
set_option maxRecDepth 100000
set_option maxHeartbeats 4000000

theorem same18 {n ma mb : Nat} {va vb : Value} {vs us : List Value} {R S M : MM} {f : Nat → List UInt8} {w : World} (hn : n < 65536) (ha : RowOk ma 22 1 vs n va R) (hb : RowOk mb 22 1 us n vb S) (haR : ∀ p ∈ R, p ∈ M) (hbR : ∀ p ∈ S, p ∈ M) (hfa : Bss M vs f) (hfb : Bss M us f) (hM : Has M w) (hnd : (M.map Prod.fst).Nodup) :
  Calls Tryd.prog 18 #[va, vb] w fun en w' => en = .returned (.bool true) ∧ Same w w' := by
 obtain ⟨ad, c1, rfl⟩ := ha.len
 obtain ⟨ad2, c2, rfl⟩ := hb.len
 refine enter (E := E0) Tryd.func18 rfl Tryd.ntmps18 (Nat.le_of_ble_eq_true rfl) [(0, _), (1, _)] (AOk.get («as» := [_, _]) ⟨rfl, rfl, trivial⟩) M hM hnd ?_
 refine scR ?_
 refine sqA rfl rfl ?_
 refine sqK [0, 1] rfl ?_
 refine sc_seq ?_
 refine scR ?_
 refine sqM rfl rfl ?_
 refine sq_q (q_len rfl Tryd.runUnderlying27) rfl ?_
 refine sqM rfl rfl ?_
 refine sq_q (q_len rfl Tryd.runUnderlying27) rfl ?_
 refine sq_q (q_decF (q_neq rfl rfl) (fun h => h rfl)) rfl ?_
 refine sqK [0, 1, 10] rfl ?_
 refine sc_cond_f rfl ?_
 refine scS ?_
 refine scK [0, 1] rfl ?_
 refine sc_seq ?_
 refine scR ?_
 refine sqM rfl rfl ?_
 refine sq_q (q_len rfl Tryd.runUnderlying27) rfl ?_
 refine sqM rfl rfl ?_
 refine sqK [0, 1, 12, 13] rfl ?_
 refine sc_block ?_
 refine sc_loop (ι := Nat) (fun i => [(0, .slice ad n c1), (1, .slice ad2 n c2), (12, .int .i64 (n : Int)), (13, .int .i64 (i : Int))]) (fun _ => w.heap.size) (fun _ => M) (fun i => i ≤ n) (fun i => n - i) 0 ⟨Nat.zero_le _, ⟨rfl, rfl, rfl, rfl, trivial⟩, rfl, fun _ h => h⟩ ?_
 intro i hi
 refine scR ?_
 refine sq_split (q_lss rfl rfl) rfl (fun h4_0 => ?_) (fun h4_0 => ?_)
 ·
  have hin : i < n := by omega
  obtain ⟨b1, cap1, pad1, j1, hv1, hj1⟩ := ha.blk (by omega) haR
  obtain ⟨rfl, -, rfl⟩ := Value.slice.inj hv1
  obtain ⟨b2, cap2, pad2, j2, hv2, hj2⟩ := hb.blk (by omega) hbR
  obtain ⟨rfl, -, rfl⟩ := Value.slice.inj hv2
  obtain ⟨u1, hu1, hp1⟩ := cell1 (pad := pad1) ha.1 hin
  obtain ⟨u2, hu2, hp2⟩ := cell1 (pad := pad2) hb.1 hin
  have hy1 := hfa i u1 hu1
  have hy2 := hfb i u2 hu2
  refine sqZ ?_
  refine sc_seq ?_
  refine sc_cond_t rfl ?_
  refine scS ?_
  refine scK [0, 1, 12, 13] rfl ?_
  refine sc_seq ?_
  refine sc_block ?_
  refine scR ?_
  refine sqM rfl rfl ?_
  refine sqA rfl rfl ?_
  refine sqK [0, 1, 5, 12, 13] rfl ?_
  refine sc_seq ?_
  refine sc_draw [0, 1, 2, 3, 4, 5, 6, 7, 8, 9, 10] [] M mixed (by kernel_rfl) (by kernel_rfl) (List.Subset.refl _) ?_
  iterate 2 refine drM rfl rfl rfl ?_
  refine dr_q rfl rfl (q_index (j := i) rfl rfl Tryd.runUnderlying27 Tryd.sizeOf22 ⟨by omega, by omega⟩ (by rw [Int.toNat_natCast]; omega)) ?_
  refine dr_q rfl rfl (q_load1 rfl Tryd.isAgg22 hj1 hp1) ?_
  refine dr_q rfl rfl (q_byS rfl hy1) ?_
  iterate 2 refine drM rfl rfl rfl ?_
  refine dr_q rfl rfl (q_index (j := i) rfl rfl Tryd.runUnderlying27 Tryd.sizeOf22 ⟨by omega, by omega⟩ (by rw [Int.toNat_natCast]; omega)) ?_
  refine dr_q rfl rfl (q_load1 rfl Tryd.isAgg22 hj2 hp2) ?_
  refine dr_q rfl rfl (q_byS rfl hy2) ?_
  refine dr_q rfl rfl (q_beqF (q_strneq rfl rfl) (by simp)) ?_
  refine dr_nil ?_
  refine se_seq ?_
  refine scK [0, 1, 12, 13, 26] rfl ?_
  refine sc_cond_f rfl ?_
  refine sc_skip ?_
  refine se_block ?_
  refine se_seq ?_
  refine scK [0, 1, 12, 13] rfl ?_
  refine sc_region ?_
  refine sq_q (q_add rfl rfl (w_i64 (by omega) (by omega))) rfl ?_
  refine sqM rfl rfl ?_
  refine sq_nil ?_
  refine se_loop (i + 1) (by omega) (by omega) ⟨rfl, rfl, rfl, rfl, trivial⟩ (fun _ h => h)
 refine sqZ ?_
 refine sc_seq ?_
 refine sc_cond_f rfl ?_
 refine sc_exit ?_
 iterate 2 refine se_then_exit ?_
 refine se_block_hit ?_
 refine se_seq ?_
 refine scK [] rfl ?_
 refine scR ?_
 refine sqA rfl rfl ?_
 refine sqZ ?_
 refine sc_ret ?_
 exact se_end (res1 Tryd.results18 rfl) (fun w' hw => ⟨rfl, hw.same_of⟩)

end Go.Proofs.YtgkjnkhoopcjgaaDoor
/- laws.isFound: what a file tells is what was found. Conditions: both lie in memory and tell the same words. -/
namespace Go.Proofs.YtgkjnkhoopcjgaaDoor
open Go.Sx
set_option maxRecDepth 100000
set_option maxHeartbeats 4000000

/-- The words of a file, told in memory. -/
structure TellIn (bs : List UInt8) (M : MM) (v1 v2 v3 v4 : Value) : Prop where
 secs : ∃ m R, RowOk m 39 11 (secsL bs (nameOf bs) (hd bs).shnum) (hd bs).shnum v1 R ∧ ∀ p ∈ R, p ∈ M
 parts : ∃ m vs R, RowOk m 22 1 vs (hd bs).shnum v2 R ∧ (∀ p ∈ R, p ∈ M) ∧ Bss M vs (partOf bs)
 progs : ∃ m R, RowOk m 41 8 (prgsL bs (hd bs).phnum) (hd bs).phnum v3 R ∧ ∀ p ∈ R, p ∈ M
 bodies : ∃ m vs R, RowOk m 22 1 vs (hd bs).phnum v4 R ∧ (∀ p ∈ R, p ∈ M) ∧ Bss M vs (bodyOf bs)
theorem Tells.tellIn {bs : List UInt8} {m : Nat} {v1 v2 v3 v4 : Value} {nn M : MM} (h : Tells bs m v1 v2 v3 v4 nn) (hs : List.Subset nn M) : TellIn bs M v1 v2 v3 v4 := by
 obtain ⟨⟨R, h1, h2⟩, ⟨us, S, h3, h4, h5⟩, ⟨T, h6, h7⟩, ⟨xs, U, h8, h9, h10⟩⟩ := h
 exact ⟨⟨_, R, h1, fun p hp => hs (h2 p hp)⟩, ⟨_, us, S, h3, fun p hp => hs (h4 p hp), h5.mono hs⟩, ⟨_, T, h6, fun p hp => hs (h7 p hp)⟩, ⟨_, xs, U, h8, fun p hp => hs (h9 p hp), h10.mono hs⟩⟩
theorem TellF.tellIn {bs : List UInt8} {v1 v2 v3 v4 : Value} {am nn M : MM} (h : TellF bs am nn v1 v2 v3 v4) (hs : List.Subset (am ++ nn) M) : TellIn bs M v1 v2 v3 v4 := by
 obtain ⟨⟨R, h1, h2⟩, ⟨us, S, h3, h4, h5⟩, ⟨T, h6, h7⟩, ⟨xs, U, h8, h9, h10⟩⟩ := h
 have hn : ∀ p ∈ nn, p ∈ M := fun p hp => hs (List.mem_append_right _ hp)
 exact ⟨⟨_, R, h1, fun p hp => hn p (h2 p hp)⟩, ⟨_, us, S, h3, fun p hp => hn p (h4 p hp), h5.mono hs⟩, ⟨_, T, h6, fun p hp => hn p (h7 p hp)⟩, ⟨_, xs, U, h8, fun p hp => hn p (h9 p hp), h10.mono hs⟩⟩

theorem found8 {bs : List UInt8} {w1 w2 w3 w4 v1 v2 v3 v4 : Value} {M : MM} {w : World} (ta : TellIn bs M v1 v2 v3 v4) (tb : TellIn bs M w1 w2 w3 w4) (hM : Has M w) (hnd : (M.map Prod.fst).Nodup) :
  Calls Tryd.prog 8 #[.agg (hdrL bs ++ [w1, w2, w3, w4]).toArray, .agg (hdrL bs).toArray, v1, v2, v3, v4] w fun en w' => en = .returned (.bool true) ∧ Eff E0 w w' := by
 obtain ⟨hl1, hl2, hl3, hl4, hl5, hl6, hl7, hl8, hl9, hl10, hl11⟩ := hd_lt bs
 obtain ⟨⟨_, R1, ra1, haR1⟩, ⟨_, _, R2, ra2, haR2, fa2⟩, ⟨_, R3, ra3, haR3⟩, ⟨_, _, R4, ra4, haR4, fa4⟩⟩ := ta
 obtain ⟨⟨_, S1, rb1, hbR1⟩, ⟨_, _, S2, rb2, hbR2, fb2⟩, ⟨_, S3, rb3, hbR3⟩, ⟨_, _, S4, rb4, hbR4, fb4⟩⟩ := tb
 obtain ⟨a1, c1, rfl⟩ := ra1.len
 obtain ⟨a2, c2, rfl⟩ := ra2.len
 obtain ⟨a3, c3, rfl⟩ := ra3.len
 obtain ⟨a4, c4, rfl⟩ := ra4.len
 obtain ⟨d1, e1, rfl⟩ := rb1.len
 obtain ⟨d2, e2, rfl⟩ := rb2.len
 obtain ⟨d3, e3, rfl⟩ := rb3.len
 obtain ⟨d4, e4, rfl⟩ := rb4.len
 refine enter (E := E0) Tryd.func8 rfl Tryd.ntmps8 (Nat.le_of_ble_eq_true rfl) [(0, _), (1, _), (2, _), (3, _), (4, _), (5, _)] (AOk.get («as» := [_, _, _, _, _, _]) ⟨rfl, rfl, rfl, rfl, rfl, rfl, trivial⟩) M hM hnd ?_
 refine scR ?_
 refine sq_m (m_box (l := [.int .i64 ((bv bs 4 : Nat) : Int), .int .i64 ((bv bs 5 : Nat) : Int), .int .i64 ((bv bs 6 : Nat) : Int), .int .i64 ((bv bs 7 : Nat) : Int), .int .i64 ((bv bs 8 : Nat) : Int), .int .i64 ((hd bs).type : Int), .int .i64 ((hd bs).machine : Int), .int .u64 ((hd bs).entry : Int), .slice d1 (hd bs).shnum e1, .slice d2 (hd bs).shnum e2, .slice d3 (hd bs).phnum e3, .slice d4 (hd bs).phnum e4]) rfl rfl) rfl (fun _ _ => ?_)
 refine sq_m (m_box (l := hdrL bs) rfl rfl) rfl (fun _ _ => ?_)
 refine sqA rfl rfl ?_
 refine sqK [2, 3, 4, 5, 6, 7] rfl ?_
 refine sc_seq ?_
 refine scR ?_
 refine sq_q (q_loadK rfl Tryd.isAgg25 Tryd.sizeOf25 (i := 0) (vs := hdrL bs) rfl rfl) rfl ?_
 refine sq_q (q_fieldj (j := 0) rfl Tryd.runUnderlying30 rfl Tryd.sizeOf25 rfl) rfl ?_
 refine sq_q (q_loadK rfl Tryd.isAgg25 Tryd.sizeOf25 (i := 1) (vs := hdrL bs) rfl rfl) rfl ?_
 refine sq_q (q_aggneq rfl rfl eg25 eq_hdr) rfl ?_
 refine sqM rfl rfl ?_
 refine sq_gy rfl rfl rfl ?_
 refine sqM rfl rfl ?_
 refine sq_gy rfl rfl rfl ?_
 refine sq_q (q_len rfl Tryd.runUnderlying26) rfl ?_
 refine sq_gy rfl rfl rfl ?_
 refine sq_q (q_fieldj (j := 8) rfl Tryd.runUnderlying30 rfl Tryd.sizeOf26 rfl) rfl ?_
 refine sq_gy rfl rfl rfl ?_
 refine sq_q (q_load1 rfl Tryd.isAgg26 (i := 1) rfl rfl) rfl ?_
 refine sq_gy rfl rfl rfl ?_
 refine sq_q (q_len rfl Tryd.runUnderlying26) rfl ?_
 refine sq_gy rfl rfl rfl ?_
 refine sq_q (q_decF (q_neq rfl rfl) (fun h => h rfl)) rfl ?_
 refine sqF rfl rfl rfl ?_
 refine sqM rfl rfl ?_
 refine sq_gy rfl rfl rfl ?_
 refine sqM rfl rfl ?_
 refine sq_gy rfl rfl rfl ?_
 refine sq_q (q_len rfl Tryd.runUnderlying28) rfl ?_
 refine sq_gy rfl rfl rfl ?_
 refine sq_q (q_fieldj (j := 10) rfl Tryd.runUnderlying30 rfl Tryd.sizeOf28 rfl) rfl ?_
 refine sq_gy rfl rfl rfl ?_
 refine sq_q (q_load1 rfl Tryd.isAgg28 (i := 1) rfl rfl) rfl ?_
 refine sq_gy rfl rfl rfl ?_
 refine sq_q (q_len rfl Tryd.runUnderlying28) rfl ?_
 refine sq_gy rfl rfl rfl ?_
 refine sq_q (q_decF (q_neq rfl rfl) (fun h => h rfl)) rfl ?_
 refine sqF rfl rfl rfl ?_
 refine sqK [2, 3, 4, 5, 6, 34] rfl ?_
 refine sc_cond_f rfl ?_
 refine scS ?_
 refine scK [2, 3, 4, 5, 6] rfl ?_
 refine sc_seq ?_
 refine scR ?_
 refine sqM rfl rfl ?_
 refine sq_q (q_len rfl Tryd.runUnderlying26) rfl ?_
 refine sqM rfl rfl ?_
 refine sqK [2, 3, 4, 5, 6, 36, 37] rfl ?_
 refine sc_block ?_
 refine sc_loop (ι := Nat) (fun i => [(2, .slice a1 (hd bs).shnum c1), (3, .slice a2 (hd bs).shnum c2), (4, .slice a3 (hd bs).phnum c3), (5, .slice a4 (hd bs).phnum c4), (6, .pointer (some ⟨w.heap.size, 0, none⟩)), (36, .int .i64 ((hd bs).shnum : Int)), (37, .int .i64 (i : Int))]) (fun _ => w.heap.size + 2) (fun _ => ((w.heap.size + 1, .cells (hdrL bs).toArray 25 (0, 0)) :: (w.heap.size, .cells [.int .i64 ((bv bs 4 : Nat) : Int), .int .i64 ((bv bs 5 : Nat) : Int), .int .i64 ((bv bs 6 : Nat) : Int), .int .i64 ((bv bs 7 : Nat) : Int), .int .i64 ((bv bs 8 : Nat) : Int), .int .i64 ((hd bs).type : Int), .int .i64 ((hd bs).machine : Int), .int .u64 ((hd bs).entry : Int), .slice d1 (hd bs).shnum e1, .slice d2 (hd bs).shnum e2, .slice d3 (hd bs).phnum e3, .slice d4 (hd bs).phnum e4].toArray 30 (0, 0)) :: M)) (fun i => i ≤ (hd bs).shnum) (fun i => (hd bs).shnum - i) 0 ⟨Nat.zero_le _, ⟨rfl, rfl, rfl, rfl, rfl, rfl, rfl, trivial⟩, rfl, fun _ h => h⟩ ?_
 intro i hi
 refine scR ?_
 refine sq_split (q_lss rfl rfl) rfl (fun h4_0 => ?_) (fun h4_0 => ?_)
 ·
  have hin : i < (hd bs).shnum := by omega
  obtain ⟨b1, cap1, pad1, j1, hv1, hj1⟩ := ra1.blk (by omega) haR1
  obtain ⟨b2, cap2, pad2, j2, hv2, hj2⟩ := rb1.blk (by omega) hbR1
  obtain ⟨rfl, -, rfl⟩ := Value.slice.inj hv1
  obtain ⟨rfl, -, rfl⟩ := Value.slice.inj hv2
  refine sqZ ?_
  refine sc_seq ?_
  refine sc_cond_t rfl ?_
  refine scS ?_
  refine scK [2, 3, 4, 5, 6, 36, 37] rfl ?_
  refine sc_seq ?_
  refine sc_block ?_
  refine scR ?_
  refine sqM rfl rfl ?_
  refine sqA rfl rfl ?_
  refine sqK [2, 3, 4, 5, 6, 13, 36, 37] rfl ?_
  refine sc_seq ?_
  refine sc_draw [0, 1, 2, 3, 4, 5, 6, 7, 8, 9] [] _ mixed (by kernel_rfl) (by kernel_rfl) (List.Subset.refl _) ?_
  iterate 2 refine drM rfl rfl rfl ?_
  refine dr_q rfl rfl (q_index (j := i * 11) rfl rfl Tryd.runUnderlying26 Tryd.sizeOf39 ⟨by omega, by omega⟩ (by rw [Int.toNat_natCast]; omega)) ?_
  refine dr_q rfl rfl (q_loadM rfl Tryd.isAgg39 Tryd.sizeOf39 (i := j1 + 2) hj1 (by rw [List.length_append, secsL_length]; omega) (sec_at hin)) ?_
  refine dr_q rfl rfl (q_fieldj (j := 8) rfl Tryd.runUnderlying30 rfl Tryd.sizeOf26 rfl) ?_
  refine dr_q rfl rfl (q_load1 rfl Tryd.isAgg26 (i := 1) rfl rfl) ?_
  refine drM rfl rfl rfl ?_
  refine dr_q rfl rfl (q_index (j := i * 11) rfl rfl Tryd.runUnderlying26 Tryd.sizeOf39 ⟨by omega, by omega⟩ (by rw [Int.toNat_natCast]; omega)) ?_
  refine dr_q rfl rfl (q_loadM rfl Tryd.isAgg39 Tryd.sizeOf39 (i := j2 + 2) hj2 (by rw [List.length_append, secsL_length]; omega) (sec_at hin)) ?_
  refine dr_q rfl rfl (q_aggneq rfl rfl eg39 eq_sec) ?_
  refine dr_nil ?_
  refine se_seq ?_
  refine scK [2, 3, 4, 5, 6, 36, 37, 49] rfl ?_
  refine sc_cond_f rfl ?_
  refine sc_skip ?_
  refine se_block ?_
  refine se_seq ?_
  refine scK [2, 3, 4, 5, 6, 36, 37] rfl ?_
  refine sc_region ?_
  refine sq_q (q_add rfl rfl (w_i64 (by omega) (by omega))) rfl ?_
  refine sqM rfl rfl ?_
  refine sq_nil ?_
  refine se_loop (i + 1) (by omega) (by omega) ⟨rfl, rfl, rfl, rfl, rfl, rfl, rfl, trivial⟩ (fun _ h => h)
 refine sqZ ?_
 refine sc_seq ?_
 refine sc_cond_f rfl ?_
 refine sc_exit ?_
 iterate 2 refine se_then_exit ?_
 refine se_block_hit ?_
 refine se_seq ?_
 refine scK [3, 4, 5, 6] rfl ?_
 refine sc_seq ?_
 refine scR ?_
 refine sqM rfl rfl ?_
 refine sq_q (q_len rfl Tryd.runUnderlying28) rfl ?_
 refine sqM rfl rfl ?_
 refine sqK [3, 4, 5, 6, 52, 53] rfl ?_
 refine sc_block ?_
 refine sc_loop (ι := Nat) (fun i => [(3, .slice a2 (hd bs).shnum c2), (4, .slice a3 (hd bs).phnum c3), (5, .slice a4 (hd bs).phnum c4), (6, .pointer (some ⟨w.heap.size, 0, none⟩)), (52, .int .i64 ((hd bs).phnum : Int)), (53, .int .i64 (i : Int))]) (fun _ => w.heap.size + 2) (fun _ => ((w.heap.size + 1, .cells (hdrL bs).toArray 25 (0, 0)) :: (w.heap.size, .cells [.int .i64 ((bv bs 4 : Nat) : Int), .int .i64 ((bv bs 5 : Nat) : Int), .int .i64 ((bv bs 6 : Nat) : Int), .int .i64 ((bv bs 7 : Nat) : Int), .int .i64 ((bv bs 8 : Nat) : Int), .int .i64 ((hd bs).type : Int), .int .i64 ((hd bs).machine : Int), .int .u64 ((hd bs).entry : Int), .slice d1 (hd bs).shnum e1, .slice d2 (hd bs).shnum e2, .slice d3 (hd bs).phnum e3, .slice d4 (hd bs).phnum e4].toArray 30 (0, 0)) :: M)) (fun i => i ≤ (hd bs).phnum) (fun i => (hd bs).phnum - i) 0 ⟨Nat.zero_le _, ⟨rfl, rfl, rfl, rfl, rfl, rfl, trivial⟩, rfl, fun _ h => h⟩ ?_
 intro i hi
 refine scR ?_
 refine sq_split (q_lss rfl rfl) rfl (fun h10_0 => ?_) (fun h10_0 => ?_)
 ·
  have hin : i < (hd bs).phnum := by omega
  obtain ⟨b1, cap1, pad1, j1, hv1, hj1⟩ := ra3.blk (by omega) haR3
  obtain ⟨b2, cap2, pad2, j2, hv2, hj2⟩ := rb3.blk (by omega) hbR3
  obtain ⟨rfl, -, rfl⟩ := Value.slice.inj hv1
  obtain ⟨rfl, -, rfl⟩ := Value.slice.inj hv2
  refine sqZ ?_
  refine sc_seq ?_
  refine sc_cond_t rfl ?_
  refine scS ?_
  refine scK [3, 4, 5, 6, 52, 53] rfl ?_
  refine sc_seq ?_
  refine sc_block ?_
  refine scR ?_
  refine sqM rfl rfl ?_
  refine sqA rfl rfl ?_
  refine sqK [3, 4, 5, 6, 14, 52, 53] rfl ?_
  refine sc_seq ?_
  refine sc_draw [0, 1, 2, 3, 4, 5, 6, 7, 8, 9] [] _ mixed (by kernel_rfl) (by kernel_rfl) (List.Subset.refl _) ?_
  iterate 2 refine drM rfl rfl rfl ?_
  refine dr_q rfl rfl (q_index (j := i * 8) rfl rfl Tryd.runUnderlying28 Tryd.sizeOf41 ⟨by omega, by omega⟩ (by rw [Int.toNat_natCast]; omega)) ?_
  refine dr_q rfl rfl (q_loadM rfl Tryd.isAgg41 Tryd.sizeOf41 (i := j1 + 2) hj1 (by rw [List.length_append, prgsL_length]; omega) (prg_at hin)) ?_
  refine dr_q rfl rfl (q_fieldj (j := 10) rfl Tryd.runUnderlying30 rfl Tryd.sizeOf28 rfl) ?_
  refine dr_q rfl rfl (q_load1 rfl Tryd.isAgg28 (i := 1) rfl rfl) ?_
  refine drM rfl rfl rfl ?_
  refine dr_q rfl rfl (q_index (j := i * 8) rfl rfl Tryd.runUnderlying28 Tryd.sizeOf41 ⟨by omega, by omega⟩ (by rw [Int.toNat_natCast]; omega)) ?_
  refine dr_q rfl rfl (q_loadM rfl Tryd.isAgg41 Tryd.sizeOf41 (i := j2 + 2) hj2 (by rw [List.length_append, prgsL_length]; omega) (prg_at hin)) ?_
  refine dr_q rfl rfl (q_aggneq rfl rfl eg41 eq_prg) ?_
  refine dr_nil ?_
  refine se_seq ?_
  refine scK [3, 4, 5, 6, 52, 53, 65] rfl ?_
  refine sc_cond_f rfl ?_
  refine sc_skip ?_
  refine se_block ?_
  refine se_seq ?_
  refine scK [3, 4, 5, 6, 52, 53] rfl ?_
  refine sc_region ?_
  refine sq_q (q_add rfl rfl (w_i64 (by omega) (by omega))) rfl ?_
  refine sqM rfl rfl ?_
  refine sq_nil ?_
  refine se_loop (i + 1) (by omega) (by omega) ⟨rfl, rfl, rfl, rfl, rfl, rfl, trivial⟩ (fun _ h => h)
 refine sqZ ?_
 refine sc_seq ?_
 refine sc_cond_f rfl ?_
 refine sc_exit ?_
 iterate 2 refine se_then_exit ?_
 refine se_block_hit ?_
 refine se_seq ?_
 refine scK [3, 5, 6] rfl ?_
 refine scR ?_
 refine sqM rfl rfl ?_
 refine sq_q (q_fieldj (j := 9) rfl Tryd.runUnderlying30 rfl Tryd.sizeOf27 rfl) rfl ?_
 refine sq_q (q_load1 rfl Tryd.isAgg27 (i := 1) rfl rfl) rfl ?_
 refine sq_q (q_call (args2 rfl rfl) Tryd.call18 (fun w9 hw9 => same18 (by omega) ra2 rb2 haR2 hbR2 fa2 fb2 (fun p hp => hw9 p (List.mem_cons_of_mem _ (List.mem_cons_of_mem _ hp))) hnd)) rfl ?_
 refine sqM rfl rfl ?_
 refine sq_gy rfl rfl rfl ?_
 refine sqM rfl rfl ?_
 refine sq_gy rfl rfl rfl ?_
 refine sq_q (q_fieldj (j := 11) rfl Tryd.runUnderlying30 rfl Tryd.sizeOf27 rfl) rfl ?_
 refine sq_gy rfl rfl rfl ?_
 refine sq_q (q_load1 rfl Tryd.isAgg27 (i := 1) rfl rfl) rfl ?_
 refine sq_gy rfl rfl rfl ?_
 refine sq_q (q_call (args2 rfl rfl) Tryd.call18 (fun w9 hw9 => same18 (by omega) ra4 rb4 haR4 hbR4 fa4 fb4 (fun p hp => hw9 p (List.mem_cons_of_mem _ (List.mem_cons_of_mem _ hp))) hnd)) rfl ?_
 refine sqT rfl rfl rfl ?_
 refine sqA rfl rfl ?_
 refine sqK [12] rfl ?_
 refine sc_ret ?_
 exact se_end (res1 Tryd.results8 rfl) (fun w' hw => ⟨rfl, hw.eff⟩)

end Go.Proofs.YtgkjnkhoopcjgaaDoor
/- laws.right: one small file is read. Conditions: the library's errors lie in memory. -/
namespace Go.Proofs.YtgkjnkhoopcjgaaDoor
open Go.Sx
set_option maxRecDepth 100000
set_option maxHeartbeats 1000000

structure FiX where
 ok : Bool
 xs : List Value
 v1 : Value
 v2 : Value
 v3 : Value
 v4 : Value
 nn : MM
 N : Nat
/-- A call of File. -/
theorem file_inv {g gu : Gx} {bs : List UInt8} {v : Value} {am mm : MM} {w0 : World} {E : Nat → Prop} {fm : FM} {N : Nat} {x : Operand} {ts : Array TypeId} {d : Option Nat} {ty : TypeId} {pos : String} {after : Array Edge} {gd : Option (Nat × Bool)}
  (hlen : bs.length ≤ 8192) (hpl : Plain bs) (hfit : Good bs → Fits bs) (hv : ByIn am v bs) (ham : List.Subset am mm) (hne : ∀ p ∈ am, p.1 ≠ 1 ∧ p.1 ≠ 0) (h1 : (1, g.o) ∈ mm) (h0 : (0, gu.o) ∈ mm) (hx : fm.ev x = some v) :
  Main Tryd.prog w0 E fm N mm ⟨d, .call { callee := .value (.func 6), args := #[x], argTypes := ts }, ty, pos, after, gd⟩ (fun z : FiX => .tuple #[.agg z.xs.toArray, z.v1, z.v2, z.v3, z.v4, .bool z.ok]) (fun z => z.N) (fun z => z.nn ++ mm)
   (fun z => N ≤ z.N ∧ z.xs.length = 8 ∧ z.xs.all (·.oneCell') = true ∧ ((¬ Good bs ∧ z.ok = false ∧ z.nn = []) ∨ (Good bs ∧ z.ok = true ∧ z.xs = hdrL bs ∧ Tells bs N z.v1 z.v2 z.v3 z.v4 z.nn))) := by
 refine m_call (args1 hx) Tryd.call6 fun w hw => (file6 hlen hpl hfit hv (fun p hp => hw.has p (ham hp)) hne (hw.has _ h1) (hw.has _ h0)).mono fun en w' h => ?_
 rcases h with ⟨hg, ⟨xs, a, b, c, e, h2, h3, h4⟩, h5⟩ | ⟨hg, v1, v2, v3, v4, nn, h2, h3, h4, h5, h6, h7⟩
 ·
  exact ⟨⟨false, xs, a, b, c, e, [], w'.heap.size⟩, ⟨by rw [← hw.size]; exact h5.size, h3, h4, .inl ⟨hg, rfl, rfl⟩⟩, h2, hw.call_new h5 [] (fun p hp => by cases hp) (fun p hp => by cases hp) List.nodup_nil⟩
 ·
  rw [hw.size] at h3
  exact ⟨⟨true, hdrL bs, v1, v2, v3, v4, nn, w'.heap.size⟩, ⟨by rw [← hw.size]; exact h5.size, rfl, rfl, .inr ⟨hg, rfl, rfl, h3⟩⟩, h2, hw.call_new h5 nn h6 (fun p hp => by rw [← hw.size]; exact h4 p hp) h7⟩
theorem img_len : imgB.length = 76 + 128 := by decide +kernel
theorem img_ph : (hd imgB).phnum = 0 := by decide +kernel
theorem img_sh : (hd imgB).shnum = 2 := by decide +kernel
theorem img_cls : bv imgB 4 = 2 := by decide +kernel
theorem img_good : Good imgB where
 head := { len := by decide +kernel, m0 := by decide +kernel, m1 := by decide +kernel, m2 := by decide +kernel, m3 := by decide +kernel, cls := by decide +kernel, dat := by decide +kernel, ver := by decide +kernel, size := by decide +kernel, ver4 := by decide +kernel, ph := by decide +kernel, sh := by decide +kernel, zero := by decide +kernel, nm := by decide +kernel, phe := by decide +kernel, she := by decide +kernel }
 pcut := .inl (by rw [img_ph, Nat.zero_mul])
 ps := fun i hi => by rw [img_ph] at hi; omega
 scut := .inr (by decide +kernel)
 ss := fun i hi => by
  rw [img_sh] at hi
  rcases (by omega : i = 0 ∨ i = 1) with rfl | rfl
  ·
   exact ⟨by decide +kernel, by decide +kernel⟩
  ·
   exact ⟨by decide +kernel, by decide +kernel⟩
 st := fun _ => ⟨by decide +kernel, .inr (by decide +kernel), fun i hi => by
  rw [img_sh] at hi
  rcases (by omega : i = 0 ∨ i = 1) with rfl | rfl
  ·
   decide +kernel
  ·
   decide +kernel⟩
theorem img_plain : Plain imgB := plain_all fun i hi => by
 rw [img_sh] at hi
 rcases (by omega : i = 0 ∨ i = 1) with rfl | rfl
 ·
  decide +kernel
 ·
  decide +kernel
theorem img_fits : Fits imgB where
 nz := fun i hi => by
  rw [img_sh] at hi
  rcases (by omega : i = 0 ∨ i = 1) with rfl | rfl
  ·
   decide +kernel
  ·
   decide +kernel
 fs := fun i hi => by rw [img_ph] at hi; omega
/-- A call of Laid in a walk. -/
theorem sq_laid {w0 : World} {E : Nat → Prop} {fm : FM} {N : Nat} {mm : MM} {x y : Operand} {ts : Array TypeId} {d : Nat} {ty : TypeId} {pos : String} {after : Array Edge} {nt : Nat} {ops : Array Oper} {Q : Exit → Act → World → Prop} {r : List Oper}
  (hx : fm.ev x = some (.agg [.bool true, .bool false, .int .u8 0, .int .u8 0, .int .i64 1, .int .i64 0, .int .u64 0, .slice none 0 0, .slice none 0 0].toArray)) (hy : fm.ev y = some (.agg [.slice none 0 0, .slice none 0 0].toArray)) (hd : Nat.blt d nt = true)
  (h : ∀ (b cap N' : Nat) (pad : List Value) (x1 x2 x3 : Value), N ≤ N' → w0.heap.size ≤ b → imgB.length ≤ cap → cap ≤ 9223372036854775807 →
   Sq Tryd.prog ops Q nt w0 E r ((d, .tuple #[.slice (some ⟨b, 0, none⟩) imgB.length cap, x1, x2, x3]) :: fm) N' ((b, .cells (imgB.map u8v ++ pad).toArray 5 (0, 0)) :: mm)) :
  Sq Tryd.prog ops Q nt w0 E (⟨some d, .call { callee := .value (.func 17), args := #[x, y], argTypes := ts }, ty, pos, after, none⟩ :: r) fm N mm := by
 refine sq_m (ι := (Nat × Nat × Nat) × List Value × Value × Value × Value) (V := fun q => .tuple #[.slice (some ⟨q.1.1, 0, none⟩) imgB.length q.1.2.1, q.2.2.1, q.2.2.2.1, q.2.2.2.2]) (N' := fun q => q.1.2.2)
  (mm' := fun q => (q.1.1, .cells (imgB.map u8v ++ q.2.1).toArray 5 (0, 0)) :: mm) (F := fun q => N ≤ q.1.2.2 ∧ w0.heap.size ≤ q.1.1 ∧ imgB.length ≤ q.1.2.1 ∧ q.1.2.1 ≤ 9223372036854775807) (m_call (args2 hx hy) Tryd.call17 fun w hw => ?_) hd fun q hq => ?_
 ·
  refine laid17.mono fun en w' ⟨b, cap, pad, x1, x2, x3, h1, h2, h3, h4⟩ => ?_
  have hge : w0.heap.size ≤ w.heap.size := by rw [hw.size]; exact hw.ge
  have hb := RowOk_low h2 _ (List.mem_singleton.2 rfl)
  have hx : (((hdrRB.map u8v ++ []) ++ namesB.map u8v) ++ (([] ++ (secRB 0 0 0 0 0).map u8v) ++ (secRB 2 3 1 12 64).map u8v)) = imgB.map u8v := by
   simp only [imgB, tabB, List.map_append, List.append_nil, List.nil_append]
  rw [hx] at h4
  refine ⟨((b, cap, w'.heap.size), pad, x1, x2, x3), ⟨by rw [← hw.size]; exact h3.size, Nat.le_trans hge hb, by rw [img_len]; exact h2.cap_le.1, h2.cap_le.2⟩, by rw [img_len]; exact h1, ?_⟩
  refine hw.call_new h3 [_] (fun p hp => by rw [List.mem_singleton.1 hp]; exact h4) (fun p hp => ?_) (by simp)
  rw [List.mem_singleton.1 hp, ← hw.size]; exact hb
 ·
  obtain ⟨⟨b, cap, N'⟩, pad, x1, x2, x3⟩ := q
  exact h b cap N' pad x1 x2 x3 hq.1 hq.2.1 hq.2.2.1 hq.2.2.2

theorem right7 {g gu : Gx} {w : World} (h1 : w.heap[1]? = some g.o) (h0 : w.heap[0]? = some gu.o) : Calls Tryd.prog 7 #[] w fun en w' => en = .returned (.bool true) ∧ Eff E0 w w' := by
 have hsz : 1 < w.heap.size := (Array.getElem?_eq_some_iff.1 h1).1
 refine begins E0 Tryd.func7 rfl Tryd.ntmps7 rfl (args := []) [] trivial [(1, g.o), (0, gu.o)] ⟨h1, h0, trivial⟩ (by simp) ?_
 refine scR ?_
 refine sqA rfl rfl ?_
 refine sqKR [] rfl ?_
 refine sq_q (q_build (vs := [(0, _), (4, _)]) (cs := [.bool true, .bool false, .int .u8 0, .int .u8 0, .int .i64 1, .int .i64 0, .int .u64 0, .slice none 0 0, .slice none 0 0].toArray) ⟨rfl, rfl, rfl, rfl, trivial⟩ (fun _ => by kernel_rfl)) rfl ?_
 refine sq_q (q_build (vs := []) (cs := [.slice none 0 0, .slice none 0 0].toArray) trivial (fun _ => by kernel_rfl)) rfl ?_
 refine sq_laid rfl rfl rfl (fun b cap NL pad x1 x2 x3 hNL hb hc hc2 => ?_)
 refine sqM rfl rfl ?_
 iterate 4 refine sq_q (q_extract rfl rfl) rfl ?_
 iterate 4 refine sqA rfl rfl ?_
 refine sqKR [1] rfl ?_
 refine sqM rfl rfl ?_
 refine sq_m (file_inv (bs := imgB) (am := [(b, .cells (imgB.map u8v ++ pad).toArray 5 (0, 0))]) (g := g) (gu := gu) (by rw [img_len]; decide) img_plain (fun _ => img_fits) (.inr ⟨b, 0, cap, _, 5, (0, 0), rfl, hc, hc2, List.mem_singleton.2 rfl, (by unfold At; rw [List.drop_zero, List.take_left' (by rw [List.length_map])]), by rw [Nat.zero_add, List.length_append, List.length_map]; exact Nat.le_add_right _ _, by rw [img_len]; decide⟩) (fun p hp => by rw [List.mem_singleton.1 hp]; exact List.mem_cons_self) (fun p hp => by rw [List.mem_singleton.1 hp]; dsimp only; omega) (by simp) (by simp) rfl) rfl (fun z hz => ?_)
 obtain ⟨ok, xs, v1, v2, v3, v4, nn, Nz⟩ := z
 obtain ⟨hz1, hz2, hz3, ⟨hb, -⟩ | ⟨-, hok, hxs, hz4⟩⟩ := hz
 ·
  exact absurd img_good hb
 dsimp only at hz1 hok hxs hz4
 subst hok hxs
 obtain ⟨R1, hr1, -⟩ := hz4.secs
 obtain ⟨ad, c1, rfl⟩ := hr1.len
 refine sqM rfl rfl ?_
 iterate 6 refine sq_q (q_extract rfl rfl) rfl ?_
 refine sq_m (m_alloc (l := [.int .i64 0, .int .i64 0, .int .i64 0, .int .i64 0, .int .i64 0, .int .i64 0, .int .i64 0, .int .u64 0]) Tryd.zeroValue25 rfl) rfl (fun _ _ => ?_)
 refine sq_m0 (m_stores (i := 0) (vs := hdrL imgB) (l' := hdrL imgB) rfl rfl Tryd.sizeOf25 rfl rfl rfl (Nat.le_refl _) rfl rfl (by intro h; dsimp only at hz1 h; omega)) (fun _ _ => ?_)
 iterate 5 refine sqA rfl rfl ?_
 refine sqKR [5, 6, 10] rfl ?_
 iterate 2 refine sqM rfl rfl ?_
 refine sq_gy rfl rfl rfl ?_
 refine sq_q (q_fieldj (j := 0) rfl Tryd.runUnderlying25 rfl Tryd.sizeOf3 rfl) rfl ?_
 refine sq_gy rfl rfl rfl ?_
 refine sq_q (q_load1 rfl Tryd.isAgg3 (i := 0) rfl rfl) rfl ?_
 refine sq_gy rfl rfl rfl ?_
 refine sq_q (q_decT (q_eql rfl rfl) (by have h9 := img_cls; omega)) rfl ?_
 refine sqT rfl rfl rfl ?_
 refine sqM rfl rfl ?_
 refine sq_gy rfl rfl rfl ?_
 refine sqM rfl rfl ?_
 refine sq_gy rfl rfl rfl ?_
 refine sq_q (q_len rfl Tryd.runUnderlying26) rfl ?_
 refine sq_gy rfl rfl rfl ?_
 refine sq_q (q_decT (q_eql rfl rfl) (by have h9 := img_sh; omega)) rfl ?_
 refine sqT rfl rfl rfl ?_
 refine sqA rfl rfl ?_
 refine sqK [0] rfl ?_
 refine sc_ret ?_
 exact se_end (res1 Tryd.results7 rfl) (fun w' hw => ⟨rfl, hw.eff⟩)

end Go.Proofs.YtgkjnkhoopcjgaaDoor
/- spec.Find: what is given to it, and what holds at the cuts of its walk. No condition. -/
namespace Go.Proofs.YtgkjnkhoopcjgaaDoor
open Go.Sx

/-- The bytes lie in memory. -/
structure Gs (bs : List UInt8) (ab ao c : Nat) (l : List Value) (e : TypeId) (fr : Nat × Nat) (w : World) : Prop where
 len : bs.length ≤ 8192
 cap : bs.length ≤ c
 cap2 : c ≤ 9223372036854775807
 at_ : At l ao bs
 all : ao + bs.length ≤ l.length
 mem : w.heap[ab]? = some (.cells l.toArray e fr)
/-- The identification is right. -/
structure HeadA (bs : List UInt8) : Prop where
 len : 16 ≤ bs.length
 m0 : bv bs 0 = 127
 m1 : bv bs 1 = 69
 m2 : bv bs 2 = 76
 m3 : bv bs 3 = 70
 cls : bv bs 4 = 1 ∨ bv bs 4 = 2
 dat : bv bs 5 = 1 ∨ bv bs 5 = 2
 ver : bv bs 6 = 1
noncomputable def body5 : Code := Tryd.f5.body.getD .skip
noncomputable def g3 : Code := body5.tl.tl.tl
noncomputable def g13 : Code := g3.tl.tl.tl.tl.tl.tl.tl.tl.tl.tl
noncomputable def g16 : Code := g13.tl.tl.tl
def GA (bs : List UInt8) (ab ao c : Nat) (l : List Value) (e : TypeId) (fr : Nat × Nat) (w : World) : Prop := HeadA bs →
 Sc Tryd.prog g3 (bodyPost Tryd.prog Tryd.f5 (FindR bs [(ab, .cells l.toArray e fr)] w.heap.size w)) 248 w E0 [(0, .slice (some ⟨ab, ao, none⟩) bs.length c), (2, .pointer (some ⟨w.heap.size, 0, none⟩)), (5, .pointer (some ⟨w.heap.size + 1, 0, none⟩))] (w.heap.size + 2) [(w.heap.size + 1, z12O), (w.heap.size, z12O), (ab, .cells l.toArray e fr)]
def GB (bs : List UInt8) (ab ao c : Nat) (l : List Value) (e : TypeId) (fr : Nat × Nat) (w : World) : Prop := HeadA bs → wd (isWide bs) 52 64 ≤ bs.length → ∀ fv,
 Sc Tryd.prog g13 (bodyPost Tryd.prog Tryd.f5 (FindR bs [(ab, .cells l.toArray e fr)] w.heap.size w)) 248 w E0 [(0, .slice (some ⟨ab, ao, none⟩) bs.length c), (2, .pointer (some ⟨w.heap.size, 0, none⟩)), (5, .pointer (some ⟨w.heap.size + 1, 0, none⟩)), (6, .pointer (some ⟨w.heap.size + 2, 0, none⟩)), (8, .int .i64 ((wd (isWide bs) 32 56 : Nat) : Int)), (9, .int .i64 ((wd (isWide bs) 40 64 : Nat) : Int)), (10, .int .u64 ((hd bs).version : Int)), (11, .int .u64 ((hd bs).phoff : Int)), (12, .int .u64 ((hd bs).shoff : Int)), (13, .int .u64 ((hd bs).phes : Int)), (14, .int .u64 ((hd bs).phnum : Int)), (15, .int .u64 ((hd bs).shes : Int)), (16, .int .u64 ((hd bs).shnum : Int)), (17, .int .u64 ((hd bs).names : Int))] (w.heap.size + 3) [(w.heap.size, z12O), (w.heap.size + 1, fndO bs (.slice none 0 0) (.slice none 0 0) (.slice none 0 0) (.slice none 0 0)), (ab, .cells l.toArray e fr), (w.heap.size + 2, .cells [fv, .bool (isWide bs), .bool (isBig bs)].toArray 45 (0, 0))]
def GC (bs : List UInt8) (ab ao c : Nat) (l : List Value) (e : TypeId) (fr : Nat × Nat) (w : World) : Prop := HeadOk bs → CutOk bs (hd bs).phoff ((hd bs).phnum * (hd bs).phes) → ∀ fv vR, (0 < (hd bs).phnum → vR = .slice (some ⟨ab, ao + (hd bs).phoff, none⟩) ((hd bs).phnum * (hd bs).phes) (c - (hd bs).phoff)) →
 Sc Tryd.prog g16 (bodyPost Tryd.prog Tryd.f5 (FindR bs [(ab, .cells l.toArray e fr)] w.heap.size w)) 248 w E0 [(0, .slice (some ⟨ab, ao, none⟩) bs.length c), (2, .pointer (some ⟨w.heap.size, 0, none⟩)), (5, .pointer (some ⟨w.heap.size + 1, 0, none⟩)), (6, .pointer (some ⟨w.heap.size + 2, 0, none⟩)), (12, .int .u64 ((hd bs).shoff : Int)), (13, .int .u64 ((hd bs).phes : Int)), (14, .int .u64 ((hd bs).phnum : Int)), (15, .int .u64 ((hd bs).shes : Int)), (16, .int .u64 ((hd bs).shnum : Int)), (17, .int .u64 ((hd bs).names : Int)), (18, vR)] (w.heap.size + 3) [(w.heap.size, z12O), (w.heap.size + 1, fndO bs (.slice none 0 0) (.slice none 0 0) (.slice none 0 0) (.slice none 0 0)), (ab, .cells l.toArray e fr), (w.heap.size + 2, .cells [fv, .bool (isWide bs), .bool (isBig bs)].toArray 45 (0, 0))]
end Go.Proofs.YtgkjnkhoopcjgaaDoor
/- spec.Find: the entry and the identification. Conditions: the bytes lie in memory. -/
namespace Go.Proofs.YtgkjnkhoopcjgaaDoor
open Go.Sx
set_option maxRecDepth 100000
set_option maxHeartbeats 4000000

theorem bv_at {l : List Value} {ao k : Nat} {bs : List UInt8} (h : At l ao bs) (hk : k < bs.length) : l[ao + k]? = some (.int .u8 ((bv bs k : Nat) : Int)) := by
 rw [h.get (List.getElem?_eq_getElem hk)]
 simp [bv, u8v, hk]
theorem magic {bs : List UInt8} (h : 4 ≤ bs.length) : ((strB (bs.take 4)).toList == ByteArray.toList ⟨#[127, 69, 76, 70]⟩) = true ↔ (bv bs 0 = 127 ∧ bv bs 1 = 69 ∧ bv bs 2 = 76 ∧ bv bs 3 = 70) := by
 rw [strB_toList]
 have e : ByteArray.toList ⟨#[127, 69, 76, 70]⟩ = [127, 69, 76, 70] := by rw [ByteArray.toList_eq]
 rw [e, beq_iff_eq]
 match bs, h with
 | a :: b :: c :: d :: r, _ =>
  simp only [bv, List.take_succ_cons, List.take_zero, List.cons.injEq, and_true, List.getD_cons_zero, List.getD_cons_succ, ← UInt8.toNat_inj]
  rfl

theorem find_short {bs : List UInt8} {ad : Option Addr} {c m : Nat} {am : MM} {w : World} (hlen : bs.length < 16) :
  Calls Tryd.prog 5 #[.slice ad bs.length c] w (FindR bs am m w) := by
 have hbad : ¬ HeadOk bs := fun hh => by
  have h8 := hh.len
  omega
 refine begins E0 Tryd.func5 rfl Tryd.ntmps5 rfl [(0, _)] ⟨rfl, trivial⟩ [] trivial List.nodup_nil ?_
 refine scR ?_
 refine sq_m (m_alloc (l := [.int .i64 0, .int .i64 0, .int .i64 0, .int .i64 0, .int .i64 0, .int .i64 0, .int .i64 0, .int .u64 0, .slice none 0 0, .slice none 0 0, .slice none 0 0, .slice none 0 0]) Tryd.zeroValue30 rfl) rfl (fun _ _ => ?_)
 iterate 2 refine sqA rfl rfl ?_
 refine sqKR [0, 2] rfl ?_
 refine sq_q (q_build (vs := []) (cs := #[.int .i64 0, .int .i64 0, .int .i64 0, .int .i64 0, .int .i64 0, .int .i64 0, .int .i64 0, .int .u64 0, .slice none 0 0, .slice none 0 0, .slice none 0 0, .slice none 0 0]) trivial (fun _ => by kernel_rfl)) rfl ?_
 refine sq_m (m_alloc (l := [.int .i64 0, .int .i64 0, .int .i64 0, .int .i64 0, .int .i64 0, .int .i64 0, .int .i64 0, .int .u64 0, .slice none 0 0, .slice none 0 0, .slice none 0 0, .slice none 0 0]) Tryd.zeroValue30 rfl) rfl (fun _ _ => ?_)
 refine sq_m0 (m_stores (i := 0) (vs := [.int .i64 0, .int .i64 0, .int .i64 0, .int .i64 0, .int .i64 0, .int .i64 0, .int .i64 0, .int .u64 0, .slice none 0 0, .slice none 0 0, .slice none 0 0, .slice none 0 0]) (l' := [.int .i64 0, .int .i64 0, .int .i64 0, .int .i64 0, .int .i64 0, .int .i64 0, .int .i64 0, .int .u64 0, .slice none 0 0, .slice none 0 0, .slice none 0 0, .slice none 0 0]) rfl rfl Tryd.sizeOf30 rfl rfl rfl (by simp) rfl rfl (by intro h; omega)) (fun _ _ => ?_)
 refine sqK [0, 2, 5] rfl ?_
 refine sc_seq ?_
 refine scR ?_
 refine sqM rfl rfl ?_
 refine sq_q (q_len rfl Tryd.runUnderlying22) rfl ?_
 refine sq_q (q_decT (q_lss rfl rfl) (by omega)) rfl ?_
 refine sqM rfl rfl ?_
 iterate 4 refine sq_gn rfl rfl rfl rfl ?_
 refine sqT rfl rfl rfl ?_
 refine sqM rfl rfl ?_
 iterate 4 refine sq_gn rfl rfl rfl rfl ?_
 refine sqT rfl rfl rfl ?_
 refine sqM rfl rfl ?_
 iterate 4 refine sq_gn rfl rfl rfl rfl ?_
 refine sqT rfl rfl rfl ?_
 refine sqM rfl rfl ?_
 iterate 4 refine sq_gn rfl rfl rfl rfl ?_
 refine sqT rfl rfl rfl ?_
 refine sqM rfl rfl ?_
 iterate 4 refine sq_gn rfl rfl rfl rfl ?_
 refine sqT rfl rfl rfl ?_
 refine sqM rfl rfl ?_
 iterate 4 refine sq_gn rfl rfl rfl rfl ?_
 refine sqT rfl rfl rfl ?_
 refine sqK [0, 2, 5, 61] rfl ?_
 refine sc_cond_t rfl ?_
 refine scR ?_
 refine sq_q (q_loadK rfl Tryd.isAgg30 Tryd.sizeOf30 (i := 0) (vs := [.int .i64 0, .int .i64 0, .int .i64 0, .int .i64 0, .int .i64 0, .int .i64 0, .int .i64 0, .int .u64 0, .slice none 0 0, .slice none 0 0, .slice none 0 0, .slice none 0 0]) rfl rfl) rfl ?_
 refine sq_m0 (m_stores (i := 1) (vs := [.int .i64 0, .int .i64 0, .int .i64 0, .int .i64 0, .int .i64 0, .int .i64 0, .int .i64 0, .int .u64 0, .slice none 0 0, .slice none 0 0, .slice none 0 0, .slice none 0 0]) (l' := [.int .i64 0, .int .i64 0, .int .i64 0, .int .i64 0, .int .i64 0, .int .i64 0, .int .i64 0, .int .u64 0, .slice none 0 0, .slice none 0 0, .slice none 0 0, .slice none 0 0]) rfl rfl Tryd.sizeOf30 rfl rfl rfl (by simp) rfl rfl (by intro h; omega)) (fun _ _ => ?_)
 iterate 2 refine sqA rfl rfl ?_
 refine sqK [2, 3, 4] rfl ?_
 refine sc_ret ?_
 refine se_then_ret ?_
 exact se_end (resc2 Tryd.results5 rfl rfl rfl Tryd.isAgg30 Tryd.sizeOf30 (i := 1) rfl rfl) (fun w' hw => .inr (.inl ⟨fun hh => absurd hh hbad, fun hg => hbad hg.head, ⟨_, rfl, rfl, rfl, hw.eff⟩⟩))

theorem find_entry {bs : List UInt8} {ab ao c : Nat} {l : List Value} {e : TypeId} {fr : Nat × Nat} {w : World} (gx : Gs bs ab ao c l e fr w) (hnext : GA bs ab ao c l e fr w) (hlen : 16 ≤ bs.length) :
  Calls Tryd.prog 5 #[.slice (some ⟨ab, ao, none⟩) bs.length c] w (FindR bs [(ab, .cells l.toArray e fr)] w.heap.size w) := by
 have blen := gx.len
 have hcap := gx.cap
 have hcap2 := gx.cap2
 refine begins E0 Tryd.func5 rfl Tryd.ntmps5 rfl [(0, _)] ⟨rfl, trivial⟩ [(ab, .cells l.toArray e fr)] ⟨gx.mem, trivial⟩ (by simp) ?_
 refine scR ?_
 refine sq_m (m_alloc (l := [.int .i64 0, .int .i64 0, .int .i64 0, .int .i64 0, .int .i64 0, .int .i64 0, .int .i64 0, .int .u64 0, .slice none 0 0, .slice none 0 0, .slice none 0 0, .slice none 0 0]) Tryd.zeroValue30 rfl) rfl (fun _ _ => ?_)
 iterate 2 refine sqA rfl rfl ?_
 refine sqKR [0, 2] rfl ?_
 refine sq_q (q_build (vs := []) (cs := #[.int .i64 0, .int .i64 0, .int .i64 0, .int .i64 0, .int .i64 0, .int .i64 0, .int .i64 0, .int .u64 0, .slice none 0 0, .slice none 0 0, .slice none 0 0, .slice none 0 0]) trivial (fun _ => by kernel_rfl)) rfl ?_
 refine sq_m (m_alloc (l := [.int .i64 0, .int .i64 0, .int .i64 0, .int .i64 0, .int .i64 0, .int .i64 0, .int .i64 0, .int .u64 0, .slice none 0 0, .slice none 0 0, .slice none 0 0, .slice none 0 0]) Tryd.zeroValue30 rfl) rfl (fun _ _ => ?_)
 refine sq_m0 (m_stores (i := 0) (vs := [.int .i64 0, .int .i64 0, .int .i64 0, .int .i64 0, .int .i64 0, .int .i64 0, .int .i64 0, .int .u64 0, .slice none 0 0, .slice none 0 0, .slice none 0 0, .slice none 0 0]) (l' := [.int .i64 0, .int .i64 0, .int .i64 0, .int .i64 0, .int .i64 0, .int .i64 0, .int .i64 0, .int .u64 0, .slice none 0 0, .slice none 0 0, .slice none 0 0, .slice none 0 0]) rfl rfl Tryd.sizeOf30 rfl rfl rfl (by simp) rfl rfl (by intro h; omega)) (fun _ _ => ?_)
 refine sqK [0, 2, 5] rfl ?_
 refine sc_seq ?_
 refine scR ?_
 refine sqM rfl rfl ?_
 refine sq_q (q_len rfl Tryd.runUnderlying22) rfl ?_
 refine sq_q (q_decF (q_lss rfl rfl) (by omega)) rfl ?_
 refine sqM rfl rfl ?_
 refine sq_gy rfl rfl rfl ?_
 refine sqM rfl rfl ?_
 refine sq_gy rfl rfl rfl ?_
 refine sq_q (q_slice_h rfl rfl Tryd.runUnderlying22 Tryd.sizeOf5 (by omega) (by omega) rfl) rfl ?_
 refine sq_gy rfl rfl rfl ?_
 refine sq_q (q_bstr (i := 2) (xs := bs.take 4) rfl rfl Tryd.underlying22 Tryd.underlying5 Tryd.underlying9 (by simp; omega) (by have := At_piece (s := 0) (k := 4) gx.at_ (by omega); simpa using this)) rfl ?_
 refine sq_gy rfl rfl rfl ?_
 refine sq_splitb (q_strneq rfl rfl) rfl (fun h2_7 => ?_) (fun h2_7 => ?_)
 ·
  have hbad : ¬ HeadOk bs := fun hh => by
   have h9 := (magic (bs := bs) (by omega)).2 ⟨hh.m0, hh.m1, hh.m2, hh.m3⟩
   rw [h9] at h2_7
   exact absurd h2_7 (by decide)
  refine sqF rfl rfl rfl ?_
  refine sqM rfl rfl ?_
  iterate 4 refine sq_gn rfl rfl rfl rfl ?_
  refine sqT rfl rfl rfl ?_
  refine sqM rfl rfl ?_
  iterate 4 refine sq_gn rfl rfl rfl rfl ?_
  refine sqT rfl rfl rfl ?_
  refine sqM rfl rfl ?_
  iterate 4 refine sq_gn rfl rfl rfl rfl ?_
  refine sqT rfl rfl rfl ?_
  refine sqM rfl rfl ?_
  iterate 4 refine sq_gn rfl rfl rfl rfl ?_
  refine sqT rfl rfl rfl ?_
  refine sqM rfl rfl ?_
  iterate 4 refine sq_gn rfl rfl rfl rfl ?_
  refine sqT rfl rfl rfl ?_
  refine sqK [0, 2, 5, 61] rfl ?_
  refine sc_cond_t rfl ?_
  refine scR ?_
  refine sq_q (q_loadK rfl Tryd.isAgg30 Tryd.sizeOf30 (i := 0) (vs := [.int .i64 0, .int .i64 0, .int .i64 0, .int .i64 0, .int .i64 0, .int .i64 0, .int .i64 0, .int .u64 0, .slice none 0 0, .slice none 0 0, .slice none 0 0, .slice none 0 0]) rfl rfl) rfl ?_
  refine sq_m0 (m_stores (i := 1) (vs := [.int .i64 0, .int .i64 0, .int .i64 0, .int .i64 0, .int .i64 0, .int .i64 0, .int .i64 0, .int .u64 0, .slice none 0 0, .slice none 0 0, .slice none 0 0, .slice none 0 0]) (l' := [.int .i64 0, .int .i64 0, .int .i64 0, .int .i64 0, .int .i64 0, .int .i64 0, .int .i64 0, .int .u64 0, .slice none 0 0, .slice none 0 0, .slice none 0 0, .slice none 0 0]) rfl rfl Tryd.sizeOf30 rfl rfl rfl (by simp) rfl rfl (by intro h; omega)) (fun _ _ => ?_)
  iterate 2 refine sqA rfl rfl ?_
  refine sqK [2, 3, 4] rfl ?_
  refine sc_ret ?_
  refine se_then_ret ?_
  exact se_end (resc2 Tryd.results5 rfl rfl rfl Tryd.isAgg30 Tryd.sizeOf30 (i := 1) rfl rfl) (fun w' hw => .inr (.inl ⟨fun hh => absurd hh hbad, fun hg => hbad hg.head, ⟨_, rfl, rfl, rfl, hw.eff⟩⟩))
 obtain ⟨hm0, hm1, hm2, hm3⟩ := (magic (bs := bs) (by omega)).1 (by rw [Bool.not_eq_false'] at h2_7; exact h2_7)
 refine sqF rfl rfl rfl ?_
 refine sqM rfl rfl ?_
 refine sq_gy rfl rfl rfl ?_
 refine sqM rfl rfl ?_
 refine sq_gy rfl rfl rfl ?_
 refine sq_q (q_index (i := 4) (s := 1) (j := ao + 4) rfl rfl Tryd.runUnderlying22 Tryd.sizeOf5 ⟨by omega, by omega⟩ rfl) rfl ?_
 refine sq_gy rfl rfl rfl ?_
 refine sq_q (q_load1 rfl Tryd.isAgg5 (i := 2) rfl (bv_at gx.at_ (by omega))) rfl ?_
 refine sq_gy rfl rfl rfl ?_
 refine sq_split (q_lss rfl rfl) rfl (fun h2_13 => ?_) (fun h2_13 => ?_)
 ·
  have hbad : ¬ HeadOk bs := fun hh => by
   have h8 := hh.cls
   have h9 := hh.dat
   have h10 := hh.ver
   omega
  refine sqF rfl rfl rfl ?_
  refine sqM rfl rfl ?_
  iterate 4 refine sq_gn rfl rfl rfl rfl ?_
  refine sqT rfl rfl rfl ?_
  refine sqM rfl rfl ?_
  iterate 4 refine sq_gn rfl rfl rfl rfl ?_
  refine sqT rfl rfl rfl ?_
  refine sqM rfl rfl ?_
  iterate 4 refine sq_gn rfl rfl rfl rfl ?_
  refine sqT rfl rfl rfl ?_
  refine sqM rfl rfl ?_
  iterate 4 refine sq_gn rfl rfl rfl rfl ?_
  refine sqT rfl rfl rfl ?_
  refine sqK [0, 2, 5, 61] rfl ?_
  refine sc_cond_t rfl ?_
  refine scR ?_
  refine sq_q (q_loadK rfl Tryd.isAgg30 Tryd.sizeOf30 (i := 0) (vs := [.int .i64 0, .int .i64 0, .int .i64 0, .int .i64 0, .int .i64 0, .int .i64 0, .int .i64 0, .int .u64 0, .slice none 0 0, .slice none 0 0, .slice none 0 0, .slice none 0 0]) rfl rfl) rfl ?_
  refine sq_m0 (m_stores (i := 1) (vs := [.int .i64 0, .int .i64 0, .int .i64 0, .int .i64 0, .int .i64 0, .int .i64 0, .int .i64 0, .int .u64 0, .slice none 0 0, .slice none 0 0, .slice none 0 0, .slice none 0 0]) (l' := [.int .i64 0, .int .i64 0, .int .i64 0, .int .i64 0, .int .i64 0, .int .i64 0, .int .i64 0, .int .u64 0, .slice none 0 0, .slice none 0 0, .slice none 0 0, .slice none 0 0]) rfl rfl Tryd.sizeOf30 rfl rfl rfl (by simp) rfl rfl (by intro h; omega)) (fun _ _ => ?_)
  iterate 2 refine sqA rfl rfl ?_
  refine sqK [2, 3, 4] rfl ?_
  refine sc_ret ?_
  refine se_then_ret ?_
  exact se_end (resc2 Tryd.results5 rfl rfl rfl Tryd.isAgg30 Tryd.sizeOf30 (i := 1) rfl rfl) (fun w' hw => .inr (.inl ⟨fun hh => absurd hh hbad, fun hg => hbad hg.head, ⟨_, rfl, rfl, rfl, hw.eff⟩⟩))
 refine sqF rfl rfl rfl ?_
 refine sqM rfl rfl ?_
 refine sq_gy rfl rfl rfl ?_
 refine sqM rfl rfl ?_
 refine sq_gy rfl rfl rfl ?_
 refine sq_q (q_index (i := 4) (s := 1) (j := ao + 4) rfl rfl Tryd.runUnderlying22 Tryd.sizeOf5 ⟨by omega, by omega⟩ rfl) rfl ?_
 refine sq_gy rfl rfl rfl ?_
 refine sq_q (q_load1 rfl Tryd.isAgg5 (i := 2) rfl (bv_at gx.at_ (by omega))) rfl ?_
 refine sq_gy rfl rfl rfl ?_
 refine sq_split (q_gtr rfl rfl) rfl (fun h2_19 => ?_) (fun h2_19 => ?_)
 ·
  have hbad : ¬ HeadOk bs := fun hh => by
   have h8 := hh.cls
   have h9 := hh.dat
   have h10 := hh.ver
   omega
  refine sqF rfl rfl rfl ?_
  refine sqM rfl rfl ?_
  iterate 4 refine sq_gn rfl rfl rfl rfl ?_
  refine sqT rfl rfl rfl ?_
  refine sqM rfl rfl ?_
  iterate 4 refine sq_gn rfl rfl rfl rfl ?_
  refine sqT rfl rfl rfl ?_
  refine sqM rfl rfl ?_
  iterate 4 refine sq_gn rfl rfl rfl rfl ?_
  refine sqT rfl rfl rfl ?_
  refine sqK [0, 2, 5, 61] rfl ?_
  refine sc_cond_t rfl ?_
  refine scR ?_
  refine sq_q (q_loadK rfl Tryd.isAgg30 Tryd.sizeOf30 (i := 0) (vs := [.int .i64 0, .int .i64 0, .int .i64 0, .int .i64 0, .int .i64 0, .int .i64 0, .int .i64 0, .int .u64 0, .slice none 0 0, .slice none 0 0, .slice none 0 0, .slice none 0 0]) rfl rfl) rfl ?_
  refine sq_m0 (m_stores (i := 1) (vs := [.int .i64 0, .int .i64 0, .int .i64 0, .int .i64 0, .int .i64 0, .int .i64 0, .int .i64 0, .int .u64 0, .slice none 0 0, .slice none 0 0, .slice none 0 0, .slice none 0 0]) (l' := [.int .i64 0, .int .i64 0, .int .i64 0, .int .i64 0, .int .i64 0, .int .i64 0, .int .i64 0, .int .u64 0, .slice none 0 0, .slice none 0 0, .slice none 0 0, .slice none 0 0]) rfl rfl Tryd.sizeOf30 rfl rfl rfl (by simp) rfl rfl (by intro h; omega)) (fun _ _ => ?_)
  iterate 2 refine sqA rfl rfl ?_
  refine sqK [2, 3, 4] rfl ?_
  refine sc_ret ?_
  refine se_then_ret ?_
  exact se_end (resc2 Tryd.results5 rfl rfl rfl Tryd.isAgg30 Tryd.sizeOf30 (i := 1) rfl rfl) (fun w' hw => .inr (.inl ⟨fun hh => absurd hh hbad, fun hg => hbad hg.head, ⟨_, rfl, rfl, rfl, hw.eff⟩⟩))
 refine sqF rfl rfl rfl ?_
 refine sqM rfl rfl ?_
 refine sq_gy rfl rfl rfl ?_
 refine sqM rfl rfl ?_
 refine sq_gy rfl rfl rfl ?_
 refine sq_q (q_index (i := 5) (s := 1) (j := ao + 5) rfl rfl Tryd.runUnderlying22 Tryd.sizeOf5 ⟨by omega, by omega⟩ rfl) rfl ?_
 refine sq_gy rfl rfl rfl ?_
 refine sq_q (q_load1 rfl Tryd.isAgg5 (i := 2) rfl (bv_at gx.at_ (by omega))) rfl ?_
 refine sq_gy rfl rfl rfl ?_
 refine sq_split (q_lss rfl rfl) rfl (fun h2_25 => ?_) (fun h2_25 => ?_)
 ·
  have hbad : ¬ HeadOk bs := fun hh => by
   have h8 := hh.cls
   have h9 := hh.dat
   have h10 := hh.ver
   omega
  refine sqF rfl rfl rfl ?_
  refine sqM rfl rfl ?_
  iterate 4 refine sq_gn rfl rfl rfl rfl ?_
  refine sqT rfl rfl rfl ?_
  refine sqM rfl rfl ?_
  iterate 4 refine sq_gn rfl rfl rfl rfl ?_
  refine sqT rfl rfl rfl ?_
  refine sqK [0, 2, 5, 61] rfl ?_
  refine sc_cond_t rfl ?_
  refine scR ?_
  refine sq_q (q_loadK rfl Tryd.isAgg30 Tryd.sizeOf30 (i := 0) (vs := [.int .i64 0, .int .i64 0, .int .i64 0, .int .i64 0, .int .i64 0, .int .i64 0, .int .i64 0, .int .u64 0, .slice none 0 0, .slice none 0 0, .slice none 0 0, .slice none 0 0]) rfl rfl) rfl ?_
  refine sq_m0 (m_stores (i := 1) (vs := [.int .i64 0, .int .i64 0, .int .i64 0, .int .i64 0, .int .i64 0, .int .i64 0, .int .i64 0, .int .u64 0, .slice none 0 0, .slice none 0 0, .slice none 0 0, .slice none 0 0]) (l' := [.int .i64 0, .int .i64 0, .int .i64 0, .int .i64 0, .int .i64 0, .int .i64 0, .int .i64 0, .int .u64 0, .slice none 0 0, .slice none 0 0, .slice none 0 0, .slice none 0 0]) rfl rfl Tryd.sizeOf30 rfl rfl rfl (by simp) rfl rfl (by intro h; omega)) (fun _ _ => ?_)
  iterate 2 refine sqA rfl rfl ?_
  refine sqK [2, 3, 4] rfl ?_
  refine sc_ret ?_
  refine se_then_ret ?_
  exact se_end (resc2 Tryd.results5 rfl rfl rfl Tryd.isAgg30 Tryd.sizeOf30 (i := 1) rfl rfl) (fun w' hw => .inr (.inl ⟨fun hh => absurd hh hbad, fun hg => hbad hg.head, ⟨_, rfl, rfl, rfl, hw.eff⟩⟩))
 refine sqF rfl rfl rfl ?_
 refine sqM rfl rfl ?_
 refine sq_gy rfl rfl rfl ?_
 refine sqM rfl rfl ?_
 refine sq_gy rfl rfl rfl ?_
 refine sq_q (q_index (i := 5) (s := 1) (j := ao + 5) rfl rfl Tryd.runUnderlying22 Tryd.sizeOf5 ⟨by omega, by omega⟩ rfl) rfl ?_
 refine sq_gy rfl rfl rfl ?_
 refine sq_q (q_load1 rfl Tryd.isAgg5 (i := 2) rfl (bv_at gx.at_ (by omega))) rfl ?_
 refine sq_gy rfl rfl rfl ?_
 refine sq_split (q_gtr rfl rfl) rfl (fun h2_31 => ?_) (fun h2_31 => ?_)
 ·
  have hbad : ¬ HeadOk bs := fun hh => by
   have h8 := hh.cls
   have h9 := hh.dat
   have h10 := hh.ver
   omega
  refine sqF rfl rfl rfl ?_
  refine sqM rfl rfl ?_
  iterate 4 refine sq_gn rfl rfl rfl rfl ?_
  refine sqT rfl rfl rfl ?_
  refine sqK [0, 2, 5, 61] rfl ?_
  refine sc_cond_t rfl ?_
  refine scR ?_
  refine sq_q (q_loadK rfl Tryd.isAgg30 Tryd.sizeOf30 (i := 0) (vs := [.int .i64 0, .int .i64 0, .int .i64 0, .int .i64 0, .int .i64 0, .int .i64 0, .int .i64 0, .int .u64 0, .slice none 0 0, .slice none 0 0, .slice none 0 0, .slice none 0 0]) rfl rfl) rfl ?_
  refine sq_m0 (m_stores (i := 1) (vs := [.int .i64 0, .int .i64 0, .int .i64 0, .int .i64 0, .int .i64 0, .int .i64 0, .int .i64 0, .int .u64 0, .slice none 0 0, .slice none 0 0, .slice none 0 0, .slice none 0 0]) (l' := [.int .i64 0, .int .i64 0, .int .i64 0, .int .i64 0, .int .i64 0, .int .i64 0, .int .i64 0, .int .u64 0, .slice none 0 0, .slice none 0 0, .slice none 0 0, .slice none 0 0]) rfl rfl Tryd.sizeOf30 rfl rfl rfl (by simp) rfl rfl (by intro h; omega)) (fun _ _ => ?_)
  iterate 2 refine sqA rfl rfl ?_
  refine sqK [2, 3, 4] rfl ?_
  refine sc_ret ?_
  refine se_then_ret ?_
  exact se_end (resc2 Tryd.results5 rfl rfl rfl Tryd.isAgg30 Tryd.sizeOf30 (i := 1) rfl rfl) (fun w' hw => .inr (.inl ⟨fun hh => absurd hh hbad, fun hg => hbad hg.head, ⟨_, rfl, rfl, rfl, hw.eff⟩⟩))
 refine sqF rfl rfl rfl ?_
 refine sqM rfl rfl ?_
 refine sq_gy rfl rfl rfl ?_
 refine sqM rfl rfl ?_
 refine sq_gy rfl rfl rfl ?_
 refine sq_q (q_index (i := 6) (s := 1) (j := ao + 6) rfl rfl Tryd.runUnderlying22 Tryd.sizeOf5 ⟨by omega, by omega⟩ rfl) rfl ?_
 refine sq_gy rfl rfl rfl ?_
 refine sq_q (q_load1 rfl Tryd.isAgg5 (i := 2) rfl (bv_at gx.at_ (by omega))) rfl ?_
 refine sq_gy rfl rfl rfl ?_
 refine sq_split (q_neq rfl rfl) rfl (fun h2_37 => ?_) (fun h2_37 => ?_)
 ·
  have hbad : ¬ HeadOk bs := fun hh => by
   have h8 := hh.cls
   have h9 := hh.dat
   have h10 := hh.ver
   omega
  refine sqF rfl rfl rfl ?_
  refine sqK [0, 2, 5, 61] rfl ?_
  refine sc_cond_t rfl ?_
  refine scR ?_
  refine sq_q (q_loadK rfl Tryd.isAgg30 Tryd.sizeOf30 (i := 0) (vs := [.int .i64 0, .int .i64 0, .int .i64 0, .int .i64 0, .int .i64 0, .int .i64 0, .int .i64 0, .int .u64 0, .slice none 0 0, .slice none 0 0, .slice none 0 0, .slice none 0 0]) rfl rfl) rfl ?_
  refine sq_m0 (m_stores (i := 1) (vs := [.int .i64 0, .int .i64 0, .int .i64 0, .int .i64 0, .int .i64 0, .int .i64 0, .int .i64 0, .int .u64 0, .slice none 0 0, .slice none 0 0, .slice none 0 0, .slice none 0 0]) (l' := [.int .i64 0, .int .i64 0, .int .i64 0, .int .i64 0, .int .i64 0, .int .i64 0, .int .i64 0, .int .u64 0, .slice none 0 0, .slice none 0 0, .slice none 0 0, .slice none 0 0]) rfl rfl Tryd.sizeOf30 rfl rfl rfl (by simp) rfl rfl (by intro h; omega)) (fun _ _ => ?_)
  iterate 2 refine sqA rfl rfl ?_
  refine sqK [2, 3, 4] rfl ?_
  refine sc_ret ?_
  refine se_then_ret ?_
  exact se_end (resc2 Tryd.results5 rfl rfl rfl Tryd.isAgg30 Tryd.sizeOf30 (i := 1) rfl rfl) (fun w' hw => .inr (.inl ⟨fun hh => absurd hh hbad, fun hg => hbad hg.head, ⟨_, rfl, rfl, rfl, hw.eff⟩⟩))
 refine sqF rfl rfl rfl ?_
 refine sqK [0, 2, 5, 61] rfl ?_
 refine sc_cond_f rfl ?_
 refine scS ?_
 iterate 2 refine scK [0, 2, 5] rfl ?_
 exact hnext ⟨hlen, hm0, hm1, hm2, hm3, by omega, by omega, by omega⟩

end Go.Proofs.YtgkjnkhoopcjgaaDoor
/- spec.Find: the numbers of the header. Conditions: the bytes lie in memory; the identification is right. -/
namespace Go.Proofs.YtgkjnkhoopcjgaaDoor
open Go.Sx
set_option maxRecDepth 100000
set_option maxHeartbeats 4000000

theorem _root_.Go.Sx.q_boolv {P : Program} {fm : FM} {mm : MM} {o : Oper} {a b : Bool} (h : Quiet P fm mm o (.bool a)) (hb : a = b) : Quiet P fm mm o (.bool b) := hb ▸ h
theorem eq_two (n : Nat) : decide (((n : Nat) : Int) = 2) = (n == 2) := by
 by_cases h : n = 2
 ·
  subst h; rfl
 ·
  rw [decide_eq_false (by omega)]; simp [h]

theorem find_fields {bs : List UInt8} {ab ao c : Nat} {l : List Value} {e : TypeId} {fr : Nat × Nat} {w : World} (gx : Gs bs ab ao c l e fr w) (hnext : GB bs ab ao c l e fr w) : GA bs ab ao c l e fr w := by
 intro ha
 obtain ⟨hl1, hl2, hl3, hl4, hl5, hl6, hl7, hl8, hl9, hl10, hl11⟩ := hd_lt bs
 have hlen := ha.len
 have blen := gx.len
 have hcap := gx.cap
 have hcap2 := gx.cap2
 have h6 : ((bv bs 6 : Nat) : Int) = 1 := by rw [ha.ver]; rfl
 have hb4 := bv_lt bs 4
 have hb5 := bv_lt bs 5
 have hb7 := bv_lt bs 7
 have hb8 := bv_lt bs 8
 have hab : ab < w.heap.size := (Array.getElem?_eq_some_iff.1 gx.mem).1
 have hne : w.heap.size + 2 ≠ ab := by omega
 obtain ⟨A, hA⟩ : ∃ A, wd (isWide bs) 4 8 = A := ⟨_, rfl⟩
 have hA2 : A = 4 ∨ A = 8 := by rw [← hA]; cases isWide bs <;> simp [wd]
 have e32 : wd (isWide bs) 28 32 = 24 + A := by rw [← hA]; cases isWide bs <;> rfl
 have e40 : wd (isWide bs) 32 40 = 24 + A + A := by rw [← hA]; cases isWide bs <;> rfl
 have esz : wd (isWide bs) 52 64 = 24 + A + A + A + 16 := by rw [← hA]; cases isWide bs <;> rfl
 have v_en : fld (isBig bs) bs 24 A = (hd bs).entry := by rw [← hA]; rfl
 have v_ph : fld (isBig bs) bs (24 + A) A = (hd bs).phoff := by rw [← e32, ← hA]; rfl
 have v_sh : fld (isBig bs) bs (24 + A + A) A = (hd bs).shoff := by rw [← e40, ← hA]; rfl
 have e_phes : wd (isWide bs) 42 54 = 24 + A + A + A + 6 := by rw [← hA]; cases isWide bs <;> rfl
 have v_phes : fld (isBig bs) bs (24 + A + A + A + 6) 2 = (hd bs).phes := by rw [← e_phes]; rfl
 have e_phnum : wd (isWide bs) 44 56 = 24 + A + A + A + 8 := by rw [← hA]; cases isWide bs <;> rfl
 have v_phnum : fld (isBig bs) bs (24 + A + A + A + 8) 2 = (hd bs).phnum := by rw [← e_phnum]; rfl
 have e_shes : wd (isWide bs) 46 58 = 24 + A + A + A + 10 := by rw [← hA]; cases isWide bs <;> rfl
 have v_shes : fld (isBig bs) bs (24 + A + A + A + 10) 2 = (hd bs).shes := by rw [← e_shes]; rfl
 have e_shnum : wd (isWide bs) 48 60 = 24 + A + A + A + 12 := by rw [← hA]; cases isWide bs <;> rfl
 have v_shnum : fld (isBig bs) bs (24 + A + A + A + 12) 2 = (hd bs).shnum := by rw [← e_shnum]; rfl
 have e_names : wd (isWide bs) 50 62 = 24 + A + A + A + 14 := by rw [← hA]; cases isWide bs <;> rfl
 have v_names : fld (isBig bs) bs (24 + A + A + A + 14) 2 = (hd bs).names := by rw [← e_names]; rfl
 refine sc_seq ?_
 refine sc_draw [0, 1, 2, 3, 4, 5, 6, 7, 8, 9, 10, 11, 12] [11] [(ab, .cells l.toArray e fr)] mixed (by kernel_rfl) (by kernel_rfl) (fun _ h => by simp at h; simp [h]) ?_
 refine drM rfl rfl rfl ?_
 refine dr_q rfl rfl (q_slice_adv (l := 16) rfl rfl Tryd.runUnderlying22 Tryd.sizeOf5 (by omega) (by omega)) ?_
 refine drM rfl rfl rfl ?_
 refine dr_q rfl rfl (q_index (i := 4) (s := 1) (j := ao + 4) rfl rfl Tryd.runUnderlying22 Tryd.sizeOf5 ⟨by omega, by omega⟩ rfl) ?_
 refine dr_q rfl rfl (q_load1 rfl Tryd.isAgg5 (i := 0) rfl (bv_at gx.at_ (by omega))) ?_
 refine dr_q rfl rfl (q_boolv (b := isWide bs) (q_eql rfl rfl) (eq_two _)) ?_
 refine drM rfl rfl rfl ?_
 refine dr_q rfl rfl (q_index (i := 5) (s := 1) (j := ao + 5) rfl rfl Tryd.runUnderlying22 Tryd.sizeOf5 ⟨by omega, by omega⟩ rfl) ?_
 refine dr_q rfl rfl (q_load1 rfl Tryd.isAgg5 (i := 0) rfl (bv_at gx.at_ (by omega))) ?_
 refine dr_q rfl rfl (q_boolv (b := isBig bs) (q_eql rfl rfl) (eq_two _)) ?_
 refine dr_q rfl rfl (q_build (vs := [(0, _), (1, _), (2, _)]) (cs := #[.slice (some (adv ab ao c 16)) (bs.length - 16) (c - 16), .bool (isWide bs), .bool (isBig bs)]) ⟨rfl, rfl, rfl, rfl, rfl, rfl, trivial⟩ (fun _ => by kernel_rfl)) ?_
 refine dr_m rfl rfl (m_box rfl rfl) (fun _ _ p hp => by simp at hp; simp [hp]) (fun _ _ => ?_)
 refine drA rfl rfl rfl ?_
 refine dr_nil ?_
 refine se_seq ?_
 refine scK [0, 2, 5, 6] rfl ?_
 refine scR ?_
 refine sqM rfl rfl ?_
 refine sq_q (q_nil rfl) rfl ?_
 refine sq_q (q_fieldj (j := 1) rfl Tryd.runUnderlying45 rfl Tryd.sizeOf4 rfl) rfl ?_
 refine sq_q (q_load1 rfl Tryd.isAgg4 (i := 0) rfl rfl) rfl ?_
 refine sq_q (q_call (args1 rfl) Tryd.call9 (fun w hw => sizes9)) rfl ?_
 refine sqM rfl rfl ?_
 iterate 3 refine sq_q (q_extract rfl rfl) rfl ?_
 iterate 3 refine sqA rfl rfl ?_
 refine sqK [0, 2, 5, 6, 7, 8, 9] rfl ?_
 refine sc_seq ?_
 refine scR ?_
 refine sqM rfl rfl ?_
 refine sq_q (q_len rfl Tryd.runUnderlying22) rfl ?_
 refine sqM rfl rfl ?_
 refine sq_split (q_lss rfl rfl) rfl (fun h6_3 => ?_) (fun h6_3 => ?_)
 ·
  have hbad : ¬ HeadOk bs := fun hh => by
   have h8 := hh.size
   omega
  refine sqK [0, 2, 5, 6, 8, 9, 87] rfl ?_
  refine sc_cond_t rfl ?_
  refine scR ?_
  refine sq_q (q_loadK rfl Tryd.isAgg30 Tryd.sizeOf30 (i := 1) (vs := [.int .i64 0, .int .i64 0, .int .i64 0, .int .i64 0, .int .i64 0, .int .i64 0, .int .i64 0, .int .u64 0, .slice none 0 0, .slice none 0 0, .slice none 0 0, .slice none 0 0]) rfl rfl) rfl ?_
  refine sq_m0 (m_stores (i := 2) (vs := [.int .i64 0, .int .i64 0, .int .i64 0, .int .i64 0, .int .i64 0, .int .i64 0, .int .i64 0, .int .u64 0, .slice none 0 0, .slice none 0 0, .slice none 0 0, .slice none 0 0]) (l' := [.int .i64 0, .int .i64 0, .int .i64 0, .int .i64 0, .int .i64 0, .int .i64 0, .int .i64 0, .int .u64 0, .slice none 0 0, .slice none 0 0, .slice none 0 0, .slice none 0 0]) rfl rfl Tryd.sizeOf30 rfl rfl rfl (by simp) rfl rfl (by intro h; omega)) (fun _ _ => ?_)
  iterate 2 refine sqA rfl rfl ?_
  refine sqK [2, 3, 4] rfl ?_
  refine sc_ret ?_
  refine se_then_ret ?_
  exact se_end (resc2 Tryd.results5 rfl rfl rfl Tryd.isAgg30 Tryd.sizeOf30 (i := 2) rfl rfl) (fun w' hw => .inr (.inl ⟨fun hh => absurd hh hbad, fun hg => hbad hg.head, ⟨_, rfl, rfl, rfl, hw.eff⟩⟩))
 have hsz : wd (isWide bs) 52 64 ≤ bs.length := by omega
 rw [adv_lt (b := ab) (o := ao) (c := c) (l := 16) (by omega) rfl]
 refine sqK [0, 2, 5, 6, 8, 9, 87] rfl ?_
 refine sc_cond_f rfl ?_
 refine scS ?_
 refine scK [0, 2, 5, 6, 8, 9] rfl ?_
 refine sc_seq ?_
 refine sc_draw [0, 1, 2, 3, 4, 5, 6, 7, 8, 9, 10, 11, 12, 13, 14, 15, 16, 19, 17, 18, 20, 21, 22, 23, 24] [17, 20, 24] [(ab, .cells l.toArray e fr)] mixed (by kernel_rfl) (by kernel_rfl) (fun _ h => by simp at h; simp [h]) ?_
 refine drM rfl rfl rfl ?_
 refine dr_q rfl rfl (q_index (i := 4) (s := 1) (j := ao + 4) rfl rfl Tryd.runUnderlying22 Tryd.sizeOf5 ⟨by omega, by omega⟩ rfl) ?_
 refine dr_q rfl rfl (q_load1 rfl Tryd.isAgg5 (i := 0) rfl (bv_at gx.at_ (by omega))) ?_
 refine dr_q rfl rfl (q_conv rfl Tryd.runUnderlying5 Tryd.runUnderlying3 (w_i64 (by omega) (by omega))) ?_
 refine drM rfl rfl rfl ?_
 refine dr_q rfl rfl (q_index (i := 5) (s := 1) (j := ao + 5) rfl rfl Tryd.runUnderlying22 Tryd.sizeOf5 ⟨by omega, by omega⟩ rfl) ?_
 refine dr_q rfl rfl (q_load1 rfl Tryd.isAgg5 (i := 0) rfl (bv_at gx.at_ (by omega))) ?_
 refine dr_q rfl rfl (q_conv rfl Tryd.runUnderlying5 Tryd.runUnderlying3 (w_i64 (by omega) (by omega))) ?_
 refine drM rfl rfl rfl ?_
 refine dr_q rfl rfl (q_index (i := 7) (s := 1) (j := ao + 7) rfl rfl Tryd.runUnderlying22 Tryd.sizeOf5 ⟨by omega, by omega⟩ rfl) ?_
 refine dr_q rfl rfl (q_load1 rfl Tryd.isAgg5 (i := 0) rfl (bv_at gx.at_ (by omega))) ?_
 refine dr_q rfl rfl (q_conv rfl Tryd.runUnderlying5 Tryd.runUnderlying3 (w_i64 (by omega) (by omega))) ?_
 refine drM rfl rfl rfl ?_
 refine dr_q rfl rfl (q_index (i := 8) (s := 1) (j := ao + 8) rfl rfl Tryd.runUnderlying22 Tryd.sizeOf5 ⟨by omega, by omega⟩ rfl) ?_
 refine dr_q rfl rfl (q_load1 rfl Tryd.isAgg5 (i := 0) rfl (bv_at gx.at_ (by omega))) ?_
 refine dr_q rfl rfl (q_conv rfl Tryd.runUnderlying5 Tryd.runUnderlying3 (w_i64 (by omega) (by omega))) ?_
 iterate 2 refine drM rfl rfl rfl ?_
 refine dr_m rfl rfl (take_inv (sz := 2) (s := 2) (v := (hd bs).type) (i := 0) (j := 3) (ao := ao) (bs := bs) (p := 16) (.inl ⟨rfl, by omega, by omega⟩) rfl rfl rfl rfl hne gx.at_ (by omega) (by omega) rfl (by omega) (by omega) (adv_lt (by omega) rfl) rfl (by intro h; omega)) (fun _ _ p hp => by simp at hp; simp [hp]) (fun _ _ => ?_)
 refine dr_q rfl rfl (q_conv rfl Tryd.runUnderlying23 Tryd.runUnderlying3 (w_i64 (by omega) (by omega))) ?_
 refine dr_m rfl rfl (take_inv (sz := 2) (s := 2) (v := (hd bs).machine) (i := 0) (j := 3) (ao := ao) (bs := bs) (p := 18) (.inl ⟨rfl, by omega, by omega⟩) rfl rfl rfl rfl hne gx.at_ (by omega) (by omega) rfl (by omega) (by omega) (adv_lt (by omega) rfl) rfl (by intro h; omega)) (fun _ _ p hp => by simp at hp; simp [hp]) (fun _ _ => ?_)
 refine dr_q rfl rfl (q_conv rfl Tryd.runUnderlying23 Tryd.runUnderlying3 (w_i64 (by omega) (by omega))) ?_
 refine dr_q rfl rfl (q_build (vs := [(0, _), (1, _), (2, _), (3, _), (4, _), (5, _), (6, _)]) (cs := #[.int .i64 ((bv bs 4 : Nat) : Int), .int .i64 ((bv bs 5 : Nat) : Int), .int .i64 ((bv bs 6 : Nat) : Int), .int .i64 ((bv bs 7 : Nat) : Int), .int .i64 ((bv bs 8 : Nat) : Int), .int .i64 ((hd bs).type : Int), .int .i64 ((hd bs).machine : Int), .int .u64 0]) ⟨rfl, rfl, rfl, rfl, rfl, rfl, rfl, rfl, rfl, rfl, rfl, rfl, rfl, rfl, trivial⟩ (fun _ => by rw [h6]; kernel_rfl)) ?_
 refine dr_q rfl rfl (q_fieldj (j := 0) rfl Tryd.runUnderlying30 rfl Tryd.sizeOf25 rfl) ?_
 refine dr_m0 rfl rfl (m_stores (i := 1) (vs := [.int .i64 ((bv bs 4 : Nat) : Int), .int .i64 ((bv bs 5 : Nat) : Int), .int .i64 ((bv bs 6 : Nat) : Int), .int .i64 ((bv bs 7 : Nat) : Int), .int .i64 ((bv bs 8 : Nat) : Int), .int .i64 ((hd bs).type : Int), .int .i64 ((hd bs).machine : Int), .int .u64 0]) (l' := [.int .i64 ((bv bs 4 : Nat) : Int), .int .i64 ((bv bs 5 : Nat) : Int), .int .i64 ((bv bs 6 : Nat) : Int), .int .i64 ((bv bs 7 : Nat) : Int), .int .i64 ((bv bs 8 : Nat) : Int), .int .i64 ((hd bs).type : Int), .int .i64 ((hd bs).machine : Int), .int .u64 0, .slice none 0 0, .slice none 0 0, .slice none 0 0, .slice none 0 0]) rfl rfl Tryd.sizeOf25 rfl rfl rfl (by simp) rfl rfl (by intro h; omega)) (fun _ _ p hp => by simp at hp; simp [hp]) (fun _ _ => ?_)
 refine dr_nil ?_
 refine se_seq ?_
 refine scK [0, 2, 5, 6, 8, 9] rfl ?_
 refine scR ?_
 refine sqM rfl rfl ?_
 refine sq_m (take_inv (sz := 4) (s := 4) (v := (hd bs).version) (i := 0) (j := 3) (ao := ao) (bs := bs) (p := 20) (.inl ⟨rfl, by omega, by omega⟩) rfl rfl rfl rfl hne gx.at_ (by omega) (by omega) rfl (by omega) (by omega) (adv_lt (by omega) rfl) rfl (by intro h; omega)) rfl (fun _ _ => ?_)
 refine sqA rfl rfl ?_
 refine sqKR [0, 2, 5, 6, 8, 9, 10] rfl ?_
 refine sqM rfl rfl ?_
 refine sq_m (take_inv (sz := A) (s := 0) (v := (hd bs).entry) (i := 0) (j := 3) (ao := ao) (bs := bs) (p := 24) (.inr ⟨rfl, hA.symm⟩) rfl rfl rfl rfl hne gx.at_ (by omega) (by omega) v_en (by omega) (by omega) (adv_lt (by omega) rfl) rfl (by intro h; omega)) rfl (fun _ _ => ?_)
 refine sq_q (q_fieldj (j := 0) rfl Tryd.runUnderlying30 rfl Tryd.sizeOf25 rfl) rfl ?_
 refine sq_q (q_fieldj (j := 7) rfl Tryd.runUnderlying25 rfl Tryd.sizeOf23 rfl) rfl ?_
 refine sq_m0 (m_store rfl rfl Tryd.sizeOf23 rfl (i := 1) rfl rfl rfl (by intro h; omega)) (fun _ _ => ?_)
 refine sqKR [0, 2, 5, 6, 8, 9, 10] rfl ?_
 refine sqM rfl rfl ?_
 refine sq_m (take_inv (sz := A) (s := 0) (v := (hd bs).phoff) (i := 0) (j := 3) (ao := ao) (bs := bs) (p := 24 + A) (.inr ⟨rfl, hA.symm⟩) rfl rfl rfl rfl hne gx.at_ (by omega) (by omega) v_ph (by omega) (by omega) (adv_lt (by omega) rfl) rfl (by intro h; omega)) rfl (fun _ _ => ?_)
 refine sqM rfl rfl ?_
 refine sq_m (take_inv (sz := A) (s := 0) (v := (hd bs).shoff) (i := 0) (j := 3) (ao := ao) (bs := bs) (p := 24 + A + A) (.inr ⟨rfl, hA.symm⟩) rfl rfl rfl rfl hne gx.at_ (by omega) (by omega) v_sh (by omega) (by omega) (adv_lt (by omega) rfl) rfl (by intro h; omega)) rfl (fun _ _ => ?_)
 iterate 2 refine sqA rfl rfl ?_
 refine sqKR [0, 2, 5, 6, 8, 9, 10, 11, 12] rfl ?_
 refine sqM rfl rfl ?_
 refine sq_m (take_inv (sz := 4) (s := 4) (v := fld (isBig bs) bs (24 + A + A + A) 4) (i := 0) (j := 3) (ao := ao) (bs := bs) (p := 24 + A + A + A) (.inl ⟨rfl, by omega, by omega⟩) rfl rfl rfl rfl hne gx.at_ (by omega) (by omega) rfl (by omega) (by omega) (adv_lt (by omega) rfl) rfl (by intro h; omega)) rfl (fun _ _ => ?_)
 refine sqKR [0, 2, 5, 6, 8, 9, 10, 11, 12] rfl ?_
 refine sqM rfl rfl ?_
 refine sq_m (take_inv (sz := 2) (s := 2) (v := fld (isBig bs) bs (24 + A + A + A + 4) 2) (i := 0) (j := 3) (ao := ao) (bs := bs) (p := 24 + A + A + A + 4) (.inl ⟨rfl, by omega, by omega⟩) rfl rfl rfl rfl hne gx.at_ (by omega) (by omega) rfl (by omega) (by omega) (adv_lt (by omega) rfl) rfl (by intro h; omega)) rfl (fun _ _ => ?_)
 refine sqKR [0, 2, 5, 6, 8, 9, 10, 11, 12] rfl ?_
 refine sqM rfl rfl ?_
 refine sq_m (take_inv (sz := 2) (s := 2) (v := (hd bs).phes) (i := 0) (j := 3) (ao := ao) (bs := bs) (p := 24 + A + A + A + 6) (.inl ⟨rfl, by omega, by omega⟩) rfl rfl rfl rfl hne gx.at_ (by omega) (by omega) v_phes (by omega) (by omega) (adv_lt (by omega) rfl) rfl (by intro h; omega)) rfl (fun _ _ => ?_)
 refine sqM rfl rfl ?_
 refine sq_m (take_inv (sz := 2) (s := 2) (v := (hd bs).phnum) (i := 0) (j := 3) (ao := ao) (bs := bs) (p := 24 + A + A + A + 8) (.inl ⟨rfl, by omega, by omega⟩) rfl rfl rfl rfl hne gx.at_ (by omega) (by omega) v_phnum (by omega) (by omega) (adv_lt (by omega) rfl) rfl (by intro h; omega)) rfl (fun _ _ => ?_)
 refine sqM rfl rfl ?_
 refine sq_m (take_inv (sz := 2) (s := 2) (v := (hd bs).shes) (i := 0) (j := 3) (ao := ao) (bs := bs) (p := 24 + A + A + A + 10) (.inl ⟨rfl, by omega, by omega⟩) rfl rfl rfl rfl hne gx.at_ (by omega) (by omega) v_shes (by omega) (by omega) (adv_lt (by omega) rfl) rfl (by intro h; omega)) rfl (fun _ _ => ?_)
 refine sqM rfl rfl ?_
 refine sq_m (take_inv (sz := 2) (s := 2) (v := (hd bs).shnum) (i := 0) (j := 3) (ao := ao) (bs := bs) (p := 24 + A + A + A + 12) (.inl ⟨rfl, by omega, by omega⟩) rfl rfl rfl rfl hne gx.at_ (by omega) (by omega) v_shnum (by omega) (by omega) (adv_lt (by omega) rfl) rfl (by intro h; omega)) rfl (fun _ _ => ?_)
 refine sqM rfl rfl ?_
 refine sq_m (take_inv (sz := 2) (s := 2) (v := (hd bs).names) (i := 0) (j := 3) (ao := ao) (bs := bs) (p := 24 + A + A + A + 14) (.inl ⟨rfl, by omega, by omega⟩) rfl rfl rfl rfl hne gx.at_ (by omega) (by omega) v_names (by omega) (by omega) rfl rfl (by intro h; omega)) rfl (fun _ _ => ?_)
 iterate 5 refine sqA rfl rfl ?_
 refine sqK [0, 2, 5, 6, 8, 9, 10, 11, 12, 13, 14, 15, 16, 17] rfl ?_
 refine scK [0, 2, 5, 6, 8, 9, 10, 11, 12, 13, 14, 15, 16, 17] rfl ?_
 exact sc_mem (fun w1 h1 => h1.perm ((List.perm_append_comm (l₁ := [_]) (l₂ := [_, _, _])).trans (List.Perm.swap _ _ _)).symm) (hnext ha hsz _)

end Go.Proofs.YtgkjnkhoopcjgaaDoor
/- spec.Find: the loop over the table of programs, and the call of sections. Conditions: the bytes lie in memory, at most 8192 of them; the header is right. -/
namespace Go.Proofs.YtgkjnkhoopcjgaaDoor
open Go.Sx
set_option maxRecDepth 100000
set_option maxHeartbeats 4000000

structure LP where
 i : Nat
 N : Nat
 v : Value
 R : MM
structure LPF (bs : List UInt8) (m : Nat) (z : LP) : Prop where
 i : z.i ≤ (hd bs).phnum
 r : RowOk m 41 8 (prgsL bs z.i) z.i z.v z.R
 ok : ∀ j, j < z.i → (prow bs j).Ok

theorem find_loop {bs : List UInt8} {ab ao c : Nat} {l : List Value} {e : TypeId} {fr : Nat × Nat} {w : World} (gx : Gs bs ab ao c l e fr w) : GC bs ab ao c l e fr w := by
 intro hh hcut fv vR hR
 obtain ⟨hl1, hl2, hl3, hl4, hl5, hl6, hl7, hl8, hl9, hl10, hl11⟩ := hd_lt bs
 have blen := gx.len
 have hcap := gx.cap
 have hcap2 := gx.cap2
 have hphe := hh.phe
 refine sc_seq ?_
 refine scR ?_
 refine sqA rfl rfl ?_
 refine sqZ ?_
 refine sc_block ?_
 refine sc_loop (ι := LP) (fun z => [(0, .slice (some ⟨ab, ao, none⟩) bs.length c), (2, .pointer (some ⟨w.heap.size, 0, none⟩)), (5, .pointer (some ⟨w.heap.size + 1, 0, none⟩)), (6, .pointer (some ⟨w.heap.size + 2, 0, none⟩)), (12, .int .u64 ((hd bs).shoff : Int)), (13, .int .u64 ((hd bs).phes : Int)), (14, .int .u64 ((hd bs).phnum : Int)), (15, .int .u64 ((hd bs).shes : Int)), (16, .int .u64 ((hd bs).shnum : Int)), (17, .int .u64 ((hd bs).names : Int)), (18, vR), (20, .int .u64 (z.i : Int))]) (fun z => z.N) (fun z => (w.heap.size, z12O) :: (w.heap.size + 1, fndO bs (.slice none 0 0) (.slice none 0 0) z.v (.slice none 0 0)) :: (ab, .cells l.toArray e fr) :: (w.heap.size + 2, .cells [fv, .bool (isWide bs), .bool (isBig bs)].toArray 45 (0, 0)) :: z.R) (LPF bs w.heap.size) (fun z => (hd bs).phnum - z.i) ⟨0, w.heap.size + 3, .slice none 0 0, []⟩ ⟨⟨Nat.zero_le _, ⟨rfl, .inl ⟨rfl, rfl, rfl⟩⟩, fun j hj => absurd hj (Nat.not_lt_zero _)⟩, ⟨rfl, rfl, rfl, rfl, rfl, rfl, rfl, rfl, rfl, rfl, rfl, rfl, trivial⟩, rfl, fun _ h => h⟩ ?_
 rintro ⟨i, N, v, R⟩ ⟨hz1, hrr, hz4⟩
 dsimp only at hz1 hrr hz4
 change Sc _ _ _ _ _ _ [(0, .slice (some ⟨ab, ao, none⟩) bs.length c), (2, .pointer (some ⟨w.heap.size, 0, none⟩)), (5, .pointer (some ⟨w.heap.size + 1, 0, none⟩)), (6, .pointer (some ⟨w.heap.size + 2, 0, none⟩)), (12, .int .u64 ((hd bs).shoff : Int)), (13, .int .u64 ((hd bs).phes : Int)), (14, .int .u64 ((hd bs).phnum : Int)), (15, .int .u64 ((hd bs).shes : Int)), (16, .int .u64 ((hd bs).shnum : Int)), (17, .int .u64 ((hd bs).names : Int)), (18, vR), (20, .int .u64 (i : Int))] N ((w.heap.size, z12O) :: (w.heap.size + 1, fndO bs (.slice none 0 0) (.slice none 0 0) v (.slice none 0 0)) :: (ab, .cells l.toArray e fr) :: (w.heap.size + 2, .cells [fv, .bool (isWide bs), .bool (isBig bs)].toArray 45 (0, 0)) :: R)
 refine sc_known fun hnd1 hge1 hlt1 => ?_
 have hN1 : w.heap.size + 2 < N := hlt1 _ (List.mem_cons_of_mem _ (List.mem_cons_of_mem _ (List.mem_cons_of_mem _ List.mem_cons_self)))
 refine sc_seq ?_
 refine scR ?_
 iterate 2 refine sqM rfl rfl ?_
 refine sq_split (q_lss rfl rfl) rfl (fun h21_2 => ?_) (fun h21_2 => ?_)
 ·
  have hin : i < (hd bs).phnum := by omega
  obtain rfl := hR (by omega)
  obtain ⟨off, hoff⟩ : ∃ off, off = i * (hd bs).phes := ⟨_, rfl⟩
  obtain ⟨tot, htot⟩ : ∃ tot, (hd bs).phnum * (hd bs).phes = tot := ⟨_, rfl⟩
  have hfit := row_fit2 hin hoff htot
  have hes := hphe (by omega)
  have hw1 : wd (isWide bs) 32 56 ≤ 56 := by cases isWide bs <;> decide
  have hw2 : 32 ≤ wd (isWide bs) 32 56 := by cases isWide bs <;> decide
  have hcut2 : (hd bs).phoff + tot ≤ bs.length := by
   rw [htot] at hcut
   rcases hcut with h | h <;> omega
  have hsr : prowAt (isBig bs) (isWide bs) bs ((hd bs).phoff + off) = prow bs i := by rw [prow, hoff]
  have slt : (prow bs i).Lt := prowAt_lt _ _ _ _
  obtain ⟨q1, q2, q3, q4, q5, q6, q7, q8⟩ := slt
  refine sqK [0, 2, 5, 6, 12, 13, 14, 15, 16, 17, 18, 20, 201] rfl ?_
  refine sc_cond_t rfl ?_
  refine scS ?_
  refine scK [0, 2, 5, 6, 12, 13, 14, 15, 16, 17, 18, 20] rfl ?_
  refine sc_seq ?_
  refine sc_block ?_
  refine sc_seq ?_
  refine sc_mid (ι := Nat × Nat) (fun z => [(0, .slice (some ⟨ab, ao, none⟩) bs.length c), (2, .pointer (some ⟨w.heap.size, 0, none⟩)), (5, .pointer (some ⟨w.heap.size + 1, 0, none⟩)), (6, .pointer (some ⟨w.heap.size + 2, 0, none⟩)), (12, .int .u64 ((hd bs).shoff : Int)), (13, .int .u64 ((hd bs).phes : Int)), (14, .int .u64 ((hd bs).phnum : Int)), (15, .int .u64 ((hd bs).shes : Int)), (16, .int .u64 ((hd bs).shnum : Int)), (17, .int .u64 ((hd bs).names : Int)), (18, .slice (some ⟨ab, ao + (hd bs).phoff, none⟩) ((hd bs).phnum * (hd bs).phes) (c - (hd bs).phoff)), (20, .int .u64 (i : Int)), (21, .pointer (some ⟨z.1, 0, none⟩))]) (fun z => z.2) (fun z => (z.1, .cells (prgV (prow bs i)).toArray 41 (0, 0)) :: (w.heap.size, z12O) :: (w.heap.size + 1, fndO bs (.slice none 0 0) (.slice none 0 0) v (.slice none 0 0)) :: (ab, .cells l.toArray e fr) :: (w.heap.size + 2, .cells [fv, .bool (isWide bs), .bool (isBig bs)].toArray 45 (0, 0)) :: R) (fun z => w.heap.size ≤ z.1 ∧ N ≤ z.2) ?_ ?_
  ·
   have _tok := trivial
   refine sc_tree (.q 0 (.q 1 (.q 2 (.q 3 (.q 4 (.q 5 (.q 6 (.q 7 (.q 8 (.q 9 (.q 10 (.q 11 (.q 12 (.q 13 (.m2 16 14 (.m 14 (.m 15 (.m 17 .nil))) (.m2 16 15 (.m 15 (.m 17 .nil)) (.m 16 (.m 17 .nil)))))))))))))))))) [(w.heap.size + 2, .cells [fv, .bool (isWide bs), .bool (isBig bs)].toArray 45 (0, 0))] mixed (by kernel_rfl) (by kernel_rfl) (fun _ h => by simp at h; simp [h]) ?_
   iterate 3 refine dt_q rfl (q_move rfl) ?_
   refine dt_q rfl (q_mul (a := (i : Int)) (b := ((hd bs).phes : Int)) (r := ((off : Nat) : Int)) rfl rfl (w_u64e (by rw [hoff, Int.natCast_mul]) (by omega) (by omega))) ?_
   refine dt_q rfl (q_slice_k (l := off) (j := ao + ((hd bs).phoff + off)) rfl rfl Tryd.runUnderlying22 Tryd.sizeOf5 (by omega) (by omega) (by omega)) ?_
   refine dt_q rfl (q_move rfl) ?_
   refine dt_q rfl (q_nil rfl) ?_
   refine dt_q rfl (q_fieldj (j := 1) rfl Tryd.runUnderlying45 rfl Tryd.sizeOf4 rfl) ?_
   refine dt_q rfl (q_load1 rfl Tryd.isAgg4 (i := 0) rfl rfl) ?_
   refine dt_q rfl (q_move rfl) ?_
   refine dt_q rfl (q_nil rfl) ?_
   refine dt_q rfl (q_fieldj (j := 2) rfl Tryd.runUnderlying45 rfl Tryd.sizeOf4 rfl) ?_
   refine dt_q rfl (q_load1 rfl Tryd.isAgg4 (i := 0) rfl rfl) ?_
   refine dt_q rfl (q_build (vs := [(0, _), (1, _), (2, _)]) (cs := #[.slice (some ⟨ab, ao + ((hd bs).phoff + off), none⟩) ((hd bs).phnum * (hd bs).phes - off) (c - (hd bs).phoff - off), .bool (isWide bs), .bool (isBig bs)]) ⟨rfl, rfl, rfl, rfl, rfl, rfl, trivial⟩ (fun _ => by kernel_rfl)) ?_
   refine dt_two ?_ ?_
   ·
    have _tok := trivial
    refine dt_m rfl (m_alloc (l := [.int .i64 0, .int .i64 0, .int .u64 0, .int .u64 0, .int .u64 0, .int .u64 0, .int .u64 0, .int .u64 0]) Tryd.zeroValue41 rfl) (fun _ _ p hp => by simp at hp; simp [hp]) (fun _ _ => ?_)
    refine dt_one ?_
    refine dt_m rfl (m_box rfl rfl) (fun _ _ p hp => by simp at hp; simp [hp]) (fun _ _ => ?_)
    refine dt_one ?_
    refine dt_m rfl (prog_inv (ab := ab) (l := l) (e := e) (fr := fr) (ao := ao) (p := (hd bs).phoff + off) (bs := bs) rfl (List.Perm.refl _) (by simp) (by omega) gx.at_ (by omega) (by omega) (by omega) (by omega)) (fun _ _ p hp => by simp at hp; simp [hp]) (fun n8 hn8 => ?_)
    rw [hsr]
    refine dt_one ?_
    refine dt_m0l rfl (m_stores (i := 0) (vs := prgV (prow bs i)) (l' := prgV (prow bs i)) rfl rfl Tryd.sizeOf41 rfl rfl rfl (by simp) rfl rfl (by intro h; omega)) (by kernel_rfl) (fun _ _ => ?_)
    refine dt_nil ?_
    exact se_mid (_, _) ⟨by dsimp only; omega, by dsimp only; omega⟩ ⟨rfl, rfl, rfl, rfl, rfl, rfl, rfl, rfl, rfl, rfl, rfl, rfl, rfl, trivial⟩ (fun _ h => h)
   refine dt_m rfl (m_box rfl rfl) (fun _ _ p hp => by simp at hp; simp [hp]) (fun _ _ => ?_)
   refine dt_two ?_ ?_
   ·
    have _tok := trivial
    refine dt_m rfl (m_alloc (l := [.int .i64 0, .int .i64 0, .int .u64 0, .int .u64 0, .int .u64 0, .int .u64 0, .int .u64 0, .int .u64 0]) Tryd.zeroValue41 rfl) (fun _ _ p hp => by simp at hp; simp [hp]) (fun _ _ => ?_)
    refine dt_one ?_
    refine dt_m rfl (prog_inv (ab := ab) (l := l) (e := e) (fr := fr) (ao := ao) (p := (hd bs).phoff + off) (bs := bs) rfl (List.Perm.swap _ _ _) (by simp) (by omega) gx.at_ (by omega) (by omega) (by omega) (by omega)) (fun _ _ p hp => by simp at hp; simp [hp]) (fun n8 hn8 => ?_)
    rw [hsr]
    refine dt_one ?_
    refine dt_m0l rfl (m_stores (i := 0) (vs := prgV (prow bs i)) (l' := prgV (prow bs i)) rfl rfl Tryd.sizeOf41 rfl rfl rfl (by simp) rfl rfl (by intro h; omega)) (by kernel_rfl) (fun _ _ => ?_)
    refine dt_nil ?_
    exact se_mid (_, _) ⟨by dsimp only; omega, by dsimp only; omega⟩ ⟨rfl, rfl, rfl, rfl, rfl, rfl, rfl, rfl, rfl, rfl, rfl, rfl, rfl, trivial⟩ (fun _ h => h)
   refine dt_m rfl (prog_inv (ab := ab) (l := l) (e := e) (fr := fr) (ao := ao) (p := (hd bs).phoff + off) (bs := bs) rfl (List.Perm.refl _) (by simp) (by omega) gx.at_ (by omega) (by omega) (by omega) (by omega)) (fun _ _ p hp => by simp at hp; simp [hp]) (fun n8 hn8 => ?_)
   rw [hsr]
   refine dt_one ?_
   refine dt_m rfl (m_alloc (l := [.int .i64 0, .int .i64 0, .int .u64 0, .int .u64 0, .int .u64 0, .int .u64 0, .int .u64 0, .int .u64 0]) Tryd.zeroValue41 rfl) (fun _ _ p hp => by simp at hp; simp [hp]) (fun _ _ => ?_)
   refine dt_one ?_
   refine dt_m0l rfl (m_stores (i := 0) (vs := prgV (prow bs i)) (l' := prgV (prow bs i)) rfl rfl Tryd.sizeOf41 rfl rfl rfl (by simp) rfl rfl (by intro h; omega)) (by kernel_rfl) (fun _ _ => ?_)
   refine dt_nil ?_
   exact se_mid (_, _) ⟨by dsimp only; omega, by dsimp only; omega⟩ ⟨rfl, rfl, rfl, rfl, rfl, rfl, rfl, rfl, rfl, rfl, rfl, rfl, rfl, trivial⟩ (fun _ h => h)
  rintro ⟨k, N8⟩ ⟨hk1, hk2⟩
  dsimp only at hk1 hk2
  change Se _ _ _ _ _ _ N8 _
  have hge8 : w.heap.size ≤ N8 := by omega
  refine se_seq ?_
  refine sc_seq ?_
  refine scR ?_
  refine sq_q (q_fieldj (j := 2) rfl Tryd.runUnderlying41 rfl Tryd.sizeOf23 rfl) rfl ?_
  refine sq_q (q_load1 rfl Tryd.isAgg23 (i := 0) rfl rfl) rfl ?_
  refine sq_split (q_call (args1 rfl) Tryd.call11 (fun w hw => signed11)) rfl (fun h24_2 => ?_) (fun h24_2 => ?_)
  ·
   have _tok := trivial
   refine sq_q (q_not' rfl) rfl ?_
   refine sqM rfl rfl ?_
   refine sq_gy rfl rfl rfl ?_
   refine sq_q (q_fieldj (j := 5) rfl Tryd.runUnderlying41 rfl Tryd.sizeOf23 rfl) rfl ?_
   refine sq_gy rfl rfl rfl ?_
   refine sq_q (q_load1 rfl Tryd.isAgg23 (i := 0) rfl rfl) rfl ?_
   refine sq_gy rfl rfl rfl ?_
   refine sq_split (q_call (args1 rfl) Tryd.call11 (fun w hw => signed11)) rfl (fun h24_7 => ?_) (fun h24_7 => ?_)
   ·
    have hiok : (prow bs i).Ok := ⟨h24_2, h24_7⟩
    refine sq_gy rfl rfl rfl ?_
    refine sq_q (q_not' rfl) rfl ?_
    refine sqF rfl rfl rfl ?_
    refine sqK [0, 2, 5, 6, 12, 13, 14, 15, 16, 17, 18, 20, 21, 229] rfl ?_
    refine sc_cond_f rfl ?_
    refine scS ?_
    refine scK [0, 2, 5, 6, 12, 13, 14, 15, 16, 17, 18, 20, 21] rfl ?_
    refine sc_region ?_
    refine sq_q (q_fieldj (j := 10) rfl Tryd.runUnderlying30 rfl Tryd.sizeOf28 rfl) rfl ?_
    refine sq_q (q_load1 rfl Tryd.isAgg28 (i := 2) rfl rfl) rfl ?_
    refine sq_q (q_loadK rfl Tryd.isAgg41 Tryd.sizeOf41 (i := 0) (vs := prgV (prow bs i)) rfl rfl) rfl ?_
    refine sq_m (m_lit (vs := [(0, _)]) ⟨rfl, rfl, trivial⟩ (e := 41) (l := prgV (prow bs i)) (fun w => by kernel_rfl)) rfl (fun _ _ => ?_)
    refine sq_m (m_app_any (i := Tryd.t41) (z := .agg [.int .i64 0, .int .i64 0, .int .u64 0, .int .u64 0, .int .u64 0, .int .u64 0, .int .u64 0, .int .u64 0].toArray) (k := 8) (R := R) (rest := [(k, .cells (prgV (prow bs i)).toArray 41 (0, 0)), (w.heap.size, z12O), (w.heap.size + 1, fndO bs (.slice none 0 0) (.slice none 0 0) v (.slice none 0 0)), (ab, .cells l.toArray e fr), (w.heap.size + 2, .cells [fv, .bool (isWide bs), .bool (isBig bs)].toArray 45 (0, 0))]) (news := prgV (prow bs i)) (out := fun R' => [(k, .cells (prgV (prow bs i)).toArray 41 (0, 0)), (w.heap.size, z12O), (w.heap.size + 1, fndO bs (.slice none 0 0) (.slice none 0 0) v (.slice none 0 0)), (ab, .cells l.toArray e fr), (w.heap.size + 2, .cells [fv, .bool (isWide bs), .bool (isBig bs)].toArray 45 (0, 0))] ++ R') hrr rfl rfl (.cons _ (List.perm_append_comm (l₁ := [(k, .cells (prgV (prow bs i)).toArray 41 (0, 0)), (w.heap.size, z12O), (w.heap.size + 1, fndO bs (.slice none 0 0) (.slice none 0 0) v (.slice none 0 0)), (ab, .cells l.toArray e fr), (w.heap.size + 2, .cells [fv, .bool (isWide bs), .bool (isBig bs)].toArray 45 (0, 0))]))) (fun R' => List.perm_append_comm) Tryd.underlying28 (by kernel_rfl) (by kernel_rfl) t41_size (by kernel_rfl) rfl rfl (by omega) (bytes_fit (by omega) t41_bytes) (by intro b h1 h2; omega)) rfl (fun y hy => ?_)
    refine sq_q (q_fieldj (j := 10) rfl Tryd.runUnderlying30 rfl Tryd.sizeOf28 rfl) rfl ?_
    refine sq_m0 (m_store rfl rfl Tryd.sizeOf28 hy.2.one (i := 2) rfl rfl rfl (by intro h; omega)) (fun _ _ => ?_)
    refine sq_nil ?_
    refine se_block ?_
    refine se_seq ?_
    refine scK [0, 2, 5, 6, 12, 13, 14, 15, 16, 17, 18, 20] rfl ?_
    refine sc_region ?_
    refine sqM rfl rfl ?_
    refine sq_q (q_add rfl rfl (w_u64 (by omega) (by omega))) rfl ?_
    refine sqA rfl rfl ?_
    refine sq_nil ?_
    refine se_loop ⟨i + 1, _, _, _⟩ (by dsimp only; omega) ⟨by dsimp only; omega, hy.2, fun j hj => (by
     by_cases hji : j = i
     ·
      subst hji; exact hiok
     ·
      exact hz4 j (by dsimp only at hj; omega))⟩ ⟨rfl, rfl, rfl, rfl, rfl, rfl, rfl, rfl, rfl, rfl, rfl, rfl, trivial⟩ (fun _ h => h.sublist (.cons _ (List.Sublist.refl _)))
   have hnok : ¬ (prow bs i).Ok := fun h => h24_7 h.2
   have hbad : ¬ Good bs := fun hg => hnok (hg.ps i hin)
   have hplain : Plain bs := fun _ _ h3 _ => absurd (h3 i hin) hnok
   refine sq_gy rfl rfl rfl ?_
   refine sq_q (q_not' rfl) rfl ?_
   refine sqF rfl rfl rfl ?_
   refine sqK [0, 2, 5, 6, 12, 13, 14, 15, 16, 17, 18, 20, 21, 229] rfl ?_
   refine sc_cond_t rfl ?_
   refine scR ?_
   refine sq_q (q_loadK rfl Tryd.isAgg30 Tryd.sizeOf30 (i := 2) (vs := [.int .i64 ((bv bs 4 : Nat) : Int), .int .i64 ((bv bs 5 : Nat) : Int), .int .i64 ((bv bs 6 : Nat) : Int), .int .i64 ((bv bs 7 : Nat) : Int), .int .i64 ((bv bs 8 : Nat) : Int), .int .i64 ((hd bs).type : Int), .int .i64 ((hd bs).machine : Int), .int .u64 ((hd bs).entry : Int), .slice none 0 0, .slice none 0 0, v, .slice none 0 0]) rfl rfl) rfl ?_
   refine sq_m0 (m_stores (i := 1) (vs := [.int .i64 ((bv bs 4 : Nat) : Int), .int .i64 ((bv bs 5 : Nat) : Int), .int .i64 ((bv bs 6 : Nat) : Int), .int .i64 ((bv bs 7 : Nat) : Int), .int .i64 ((bv bs 8 : Nat) : Int), .int .i64 ((hd bs).type : Int), .int .i64 ((hd bs).machine : Int), .int .u64 ((hd bs).entry : Int), .slice none 0 0, .slice none 0 0, v, .slice none 0 0]) (l' := [.int .i64 ((bv bs 4 : Nat) : Int), .int .i64 ((bv bs 5 : Nat) : Int), .int .i64 ((bv bs 6 : Nat) : Int), .int .i64 ((bv bs 7 : Nat) : Int), .int .i64 ((bv bs 8 : Nat) : Int), .int .i64 ((hd bs).type : Int), .int .i64 ((hd bs).machine : Int), .int .u64 ((hd bs).entry : Int), .slice none 0 0, .slice none 0 0, v, .slice none 0 0]) rfl rfl Tryd.sizeOf30 rfl (all12 rfl rfl hrr.one rfl) rfl (by simp) rfl rfl (by intro h; omega)) (fun _ _ => ?_)
   iterate 2 refine sqA rfl rfl ?_
   refine sqK [2, 3, 4] rfl ?_
   refine sc_ret ?_
   refine se_then_ret ?_
   refine se_block_ret ?_
   iterate 2 refine se_then_ret ?_
   refine se_block_ret ?_
   refine se_then_ret ?_
   exact se_end (resc2 Tryd.results5 rfl rfl rfl Tryd.isAgg30 Tryd.sizeOf30 (i := 1) rfl rfl) (fun w' hw => .inr (.inl ⟨hplain, hbad, ⟨_, rfl, rfl, (all12 rfl rfl hrr.one rfl), hw.eff⟩⟩))
  have hnok : ¬ (prow bs i).Ok := fun h => h24_2 h.1
  have hbad : ¬ Good bs := fun hg => hnok (hg.ps i hin)
  have hplain : Plain bs := fun _ _ h3 _ => absurd (h3 i hin) hnok
  refine sq_q (q_not' rfl) rfl ?_
  refine sqM rfl rfl ?_
  iterate 4 refine sq_gn rfl rfl rfl rfl ?_
  refine sqT rfl rfl rfl ?_
  refine sqK [0, 2, 5, 6, 12, 13, 14, 15, 16, 17, 18, 20, 21, 229] rfl ?_
  refine sc_cond_t rfl ?_
  refine scR ?_
  refine sq_q (q_loadK rfl Tryd.isAgg30 Tryd.sizeOf30 (i := 2) (vs := [.int .i64 ((bv bs 4 : Nat) : Int), .int .i64 ((bv bs 5 : Nat) : Int), .int .i64 ((bv bs 6 : Nat) : Int), .int .i64 ((bv bs 7 : Nat) : Int), .int .i64 ((bv bs 8 : Nat) : Int), .int .i64 ((hd bs).type : Int), .int .i64 ((hd bs).machine : Int), .int .u64 ((hd bs).entry : Int), .slice none 0 0, .slice none 0 0, v, .slice none 0 0]) rfl rfl) rfl ?_
  refine sq_m0 (m_stores (i := 1) (vs := [.int .i64 ((bv bs 4 : Nat) : Int), .int .i64 ((bv bs 5 : Nat) : Int), .int .i64 ((bv bs 6 : Nat) : Int), .int .i64 ((bv bs 7 : Nat) : Int), .int .i64 ((bv bs 8 : Nat) : Int), .int .i64 ((hd bs).type : Int), .int .i64 ((hd bs).machine : Int), .int .u64 ((hd bs).entry : Int), .slice none 0 0, .slice none 0 0, v, .slice none 0 0]) (l' := [.int .i64 ((bv bs 4 : Nat) : Int), .int .i64 ((bv bs 5 : Nat) : Int), .int .i64 ((bv bs 6 : Nat) : Int), .int .i64 ((bv bs 7 : Nat) : Int), .int .i64 ((bv bs 8 : Nat) : Int), .int .i64 ((hd bs).type : Int), .int .i64 ((hd bs).machine : Int), .int .u64 ((hd bs).entry : Int), .slice none 0 0, .slice none 0 0, v, .slice none 0 0]) rfl rfl Tryd.sizeOf30 rfl (all12 rfl rfl hrr.one rfl) rfl (by simp) rfl rfl (by intro h; omega)) (fun _ _ => ?_)
  iterate 2 refine sqA rfl rfl ?_
  refine sqK [2, 3, 4] rfl ?_
  refine sc_ret ?_
  refine se_then_ret ?_
  refine se_block_ret ?_
  iterate 2 refine se_then_ret ?_
  refine se_block_ret ?_
  refine se_then_ret ?_
  exact se_end (resc2 Tryd.results5 rfl rfl rfl Tryd.isAgg30 Tryd.sizeOf30 (i := 1) rfl rfl) (fun w' hw => .inr (.inl ⟨hplain, hbad, ⟨_, rfl, rfl, (all12 rfl rfl hrr.one rfl), hw.eff⟩⟩))
 have hdone : i = (hd bs).phnum := by omega
 refine sqK [0, 2, 5, 6, 12, 13, 14, 15, 16, 17, 18, 20, 201] rfl ?_
 refine sc_cond_f rfl ?_
 refine sc_exit ?_
 iterate 2 refine se_then_exit ?_
 refine se_block_hit ?_
 refine se_seq ?_
 refine scK [0, 2, 5, 6, 12, 15, 16, 17] rfl ?_
 refine scR ?_
 subst hdone
 have hrp := RowOk_up (m' := w.heap.size + 1) hrr (fun p hp => (by
  have h1 := RowOk_low hrr p hp
  have h2 : p.1 ≠ w.heap.size := fun hh => (List.nodup_cons.1 hnd1).1 (by have h9 := List.mem_map_of_mem (f := Prod.fst) hp; rw [hh] at h9; simp [h9])
  omega))
 refine sqM rfl rfl ?_
 refine sq_q (q_loadK rfl Tryd.isAgg30 Tryd.sizeOf30 (i := 1) (vs := [.int .i64 ((bv bs 4 : Nat) : Int), .int .i64 ((bv bs 5 : Nat) : Int), .int .i64 ((bv bs 6 : Nat) : Int), .int .i64 ((bv bs 7 : Nat) : Int), .int .i64 ((bv bs 8 : Nat) : Int), .int .i64 ((hd bs).type : Int), .int .i64 ((hd bs).machine : Int), .int .u64 ((hd bs).entry : Int), .slice none 0 0, .slice none 0 0, v, .slice none 0 0]) rfl rfl) rfl ?_
 iterate 5 refine sqM rfl rfl ?_
 refine sq_m (sec_inv (bs := bs) (ab := ab) (ao := ao) (c := c) (fb := w.heap.size + 2) (fv := fv) (vP := v) (l := l) (e := e) (fr := fr) (RP := R) (wide := isWide bs) (big := isBig bs) (rb := w.heap.size) (ro := z12O) (m := w.heap.size + 1) rfl rfl rfl rfl rfl rfl rfl (fun w1 hw1 => ⟨gx.len, gx.cap, gx.cap2, gx.at_, gx.all, ⟨hh, hcut, hz4⟩, rfl, rfl, by rw [hw1.size]; omega, hrp, fun p hp => hw1.has p (List.mem_cons_of_mem _ (List.mem_cons_of_mem _ hp)), (List.nodup_cons.1 (List.nodup_cons.1 hw1.nd).2).2⟩) List.mem_cons_self (by omega) (by omega)) rfl (fun z hz => ?_)
 iterate 3 refine sq_q (q_extract rfl rfl) rfl ?_
 refine sq_m0 (m_stores (i := 0) (vs := z.xs) (l' := z.xs) rfl rfl Tryd.sizeOf30 hz.1 hz.2.1 rfl (by simp) (by show [] ++ z.xs ++ [] = z.xs; rw [List.append_nil]; rfl) rfl (by intro h; omega)) (fun _ _ => ?_)
 iterate 2 refine sqA rfl rfl ?_
 refine sqK [2, 3, 4] rfl ?_
 refine sc_ret ?_
 exact se_end (resc2 Tryd.results5 rfl rfl rfl Tryd.isAgg30 Tryd.sizeOf30 (i := 0) rfl (rangeK_all hz.1)) (fun w' hw => findR_of hz hw)

end Go.Proofs.YtgkjnkhoopcjgaaDoor
/- spec.Find: the checks of the header, and the table of programs. Conditions: the bytes lie in memory; the identification is right. -/
namespace Go.Proofs.YtgkjnkhoopcjgaaDoor
open Go.Sx
set_option maxRecDepth 100000
set_option maxHeartbeats 4000000

theorem and255 {n r : Nat} (h : n < 18446744073709551616) (hr : r = n % 256) : IntKind.u64.wrap ((BitVec.ofInt IntKind.u64.bits (n : Int) &&& BitVec.ofInt IntKind.u64.bits 255).toNat : Int) = ((r : Nat) : Int) := by
 have h1 : (BitVec.ofInt IntKind.u64.bits (n : Int) &&& BitVec.ofInt IntKind.u64.bits 255).toNat = n % 256 := by
  have e1 : BitVec.ofInt IntKind.u64.bits (n : Int) = BitVec.ofNat 64 n := BitVec.ofInt_natCast ..
  have e2 : BitVec.ofInt IntKind.u64.bits 255 = BitVec.ofNat 64 255 := rfl
  rw [e1, e2]
  show (BitVec.ofNat 64 n &&& BitVec.ofNat 64 255).toNat = _
  rw [BitVec.toNat_and, BitVec.toNat_ofNat, BitVec.toNat_ofNat, Nat.mod_eq_of_lt (by omega), Nat.mod_eq_of_lt (by omega)]
  exact Nat.and_two_pow_sub_one_eq_mod n 8
 rw [h1, ← hr, w_u64 (by omega) (by omega)]
theorem _root_.Go.Sx.eqIn_bool {P : Program} {t : TypeId} {a b : Bool} (w : World) (n : Nat) (hu : ∀ w, (underlying t).run P w = .ok .bool w) : (Op.equalIn (n + 1) t (.bool a) (.bool b)).run P w = .ok (a == b) w := by simp [Op.equalIn, hu]
theorem _root_.Go.Sx.q_bneq {P : Program} {fm : FM} {mm : MM} {d : Option Nat} {ty t t2 : TypeId} {pos : String} {after : Array Edge} {g : Option (Nat × Bool)} {x y : Operand} {a b : Bool} (hx : fm.ev x = some (.bool a)) (hy : fm.ev y = some (.bool b)) (hu : ∀ w, (underlying t).run P w = .ok .bool w) :
  Quiet P fm mm ⟨d, .binOp .neq t x y t2, ty, pos, after, g⟩ (.bool (a != b)) :=
 q_bin hx hy (fun w => by simp [eqGuard]) fun w _ => by
  have h1 := eqIn_bool (P := P) (t := t) (a := a) (b := b) w 9999 hu
  simp only [binOp]; simp [Op.equal, Op.maxDepth, h1]; cases a <;> cases b <;> rfl

noncomputable def g14 : Code := g13.tl
theorem find_table {bs : List UInt8} {ab ao c : Nat} {l : List Value} {e : TypeId} {fr : Nat × Nat} {w : World} (gx : Gs bs ab ao c l e fr w) (hnext : GC bs ab ao c l e fr w) (hh : HeadOk bs) (fv : Value) : Sc Tryd.prog g14 (bodyPost Tryd.prog Tryd.f5 (FindR bs [(ab, .cells l.toArray e fr)] w.heap.size w)) 248 w E0 [(0, .slice (some ⟨ab, ao, none⟩) bs.length c), (2, .pointer (some ⟨w.heap.size, 0, none⟩)), (5, .pointer (some ⟨w.heap.size + 1, 0, none⟩)), (6, .pointer (some ⟨w.heap.size + 2, 0, none⟩)), (11, .int .u64 ((hd bs).phoff : Int)), (12, .int .u64 ((hd bs).shoff : Int)), (13, .int .u64 ((hd bs).phes : Int)), (14, .int .u64 ((hd bs).phnum : Int)), (15, .int .u64 ((hd bs).shes : Int)), (16, .int .u64 ((hd bs).shnum : Int)), (17, .int .u64 ((hd bs).names : Int))] (w.heap.size + 3) [(w.heap.size, z12O), (w.heap.size + 1, fndO bs (.slice none 0 0) (.slice none 0 0) (.slice none 0 0) (.slice none 0 0)), (ab, .cells l.toArray e fr), (w.heap.size + 2, .cells [fv, .bool (isWide bs), .bool (isBig bs)].toArray 45 (0, 0))] := by
 obtain ⟨hl1, hl2, hl3, hl4, hl5, hl6, hl7, hl8, hl9, hl10, hl11⟩ := hd_lt bs
 have blen := gx.len
 have hcap := gx.cap
 have hcap2 := gx.cap2
 have hmul : (hd bs).phnum * (hd bs).phes < 4294967296 := by
  have := Nat.mul_le_mul (show (hd bs).phnum ≤ 65535 by omega) (show (hd bs).phes ≤ 65535 by omega)
  omega
 refine scR ?_
 iterate 4 refine sqM rfl rfl ?_
 refine sq_q (q_mul (r := (((hd bs).phnum * (hd bs).phes : Nat) : Int)) rfl rfl (w_u64e (by rw [Int.natCast_mul]) (by omega) (by omega))) rfl ?_
 refine sq_m (cut_inv hcap hcap2 (by omega) (by omega) rfl rfl rfl) rfl (fun q hq => ?_)
 obtain ⟨v, b⟩ := q
 dsimp only at hq
 rcases hq with ⟨hq1, rfl, rfl⟩ | ⟨hq1, hq2, rfl, rfl⟩ | ⟨hq1, hq2, rfl, rfl⟩
 ·
  have hcut : CutOk bs (hd bs).phoff ((hd bs).phnum * (hd bs).phes) := .inl hq1
  have hR : 0 < (hd bs).phnum → (Value.slice none 0 0) = Value.slice (some ⟨ab, ao + (hd bs).phoff, none⟩) ((hd bs).phnum * (hd bs).phes) (c - (hd bs).phoff) := fun h => by
   have h1 := hh.phe h
   have h2 : 32 ≤ wd (isWide bs) 32 56 := by cases isWide bs <;> decide
   rcases Nat.mul_eq_zero.1 hq1 with h3 | h3 <;> omega
  refine sqM rfl rfl ?_
  iterate 2 refine sq_q (q_extract rfl rfl) rfl ?_
  iterate 2 refine sqA rfl rfl ?_
  refine sqK [0, 2, 5, 6, 12, 13, 14, 15, 16, 17, 18, 19] rfl ?_
  refine sc_seq ?_
  refine scR ?_
  refine sqM rfl rfl ?_
  refine sq_q (q_not' rfl) rfl ?_
  refine sqK [0, 2, 5, 6, 12, 13, 14, 15, 16, 17, 18, 197] rfl ?_
  refine sc_cond_f rfl ?_
  refine scS ?_
  iterate 2 refine scK [0, 2, 5, 6, 12, 13, 14, 15, 16, 17, 18] rfl ?_
  exact hnext hh hcut _ _ hR
 ·
  have hbad : ¬ CutOk bs (hd bs).phoff ((hd bs).phnum * (hd bs).phes) := by rintro (h | h) <;> omega
  refine sqM rfl rfl ?_
  iterate 2 refine sq_q (q_extract rfl rfl) rfl ?_
  iterate 2 refine sqA rfl rfl ?_
  refine sqK [0, 2, 5, 6, 12, 13, 14, 15, 16, 17, 18, 19] rfl ?_
  refine sc_seq ?_
  refine scR ?_
  refine sqM rfl rfl ?_
  refine sq_q (q_not' rfl) rfl ?_
  refine sqK [0, 2, 5, 6, 12, 13, 14, 15, 16, 17, 18, 197] rfl ?_
  refine sc_cond_t rfl ?_
  refine scR ?_
  refine sq_q (q_loadK rfl Tryd.isAgg30 Tryd.sizeOf30 (i := 1) (vs := [.int .i64 ((bv bs 4 : Nat) : Int), .int .i64 ((bv bs 5 : Nat) : Int), .int .i64 ((bv bs 6 : Nat) : Int), .int .i64 ((bv bs 7 : Nat) : Int), .int .i64 ((bv bs 8 : Nat) : Int), .int .i64 ((hd bs).type : Int), .int .i64 ((hd bs).machine : Int), .int .u64 ((hd bs).entry : Int), .slice none 0 0, .slice none 0 0, .slice none 0 0, .slice none 0 0]) rfl rfl) rfl ?_
  refine sq_m0 (m_stores (i := 0) (vs := [.int .i64 ((bv bs 4 : Nat) : Int), .int .i64 ((bv bs 5 : Nat) : Int), .int .i64 ((bv bs 6 : Nat) : Int), .int .i64 ((bv bs 7 : Nat) : Int), .int .i64 ((bv bs 8 : Nat) : Int), .int .i64 ((hd bs).type : Int), .int .i64 ((hd bs).machine : Int), .int .u64 ((hd bs).entry : Int), .slice none 0 0, .slice none 0 0, .slice none 0 0, .slice none 0 0]) (l' := [.int .i64 ((bv bs 4 : Nat) : Int), .int .i64 ((bv bs 5 : Nat) : Int), .int .i64 ((bv bs 6 : Nat) : Int), .int .i64 ((bv bs 7 : Nat) : Int), .int .i64 ((bv bs 8 : Nat) : Int), .int .i64 ((hd bs).type : Int), .int .i64 ((hd bs).machine : Int), .int .u64 ((hd bs).entry : Int), .slice none 0 0, .slice none 0 0, .slice none 0 0, .slice none 0 0]) rfl rfl Tryd.sizeOf30 rfl rfl rfl (by simp) rfl rfl (by intro h; omega)) (fun _ _ => ?_)
  iterate 2 refine sqA rfl rfl ?_
  refine sqK [2, 3, 4] rfl ?_
  refine sc_ret ?_
  refine se_then_ret ?_
  exact se_end (resc2 Tryd.results5 rfl rfl rfl Tryd.isAgg30 Tryd.sizeOf30 (i := 0) rfl rfl) (fun w' hw => .inr (.inl ⟨fun _ h _ _ => absurd h hbad, fun hg => hbad hg.pcut, ⟨_, rfl, rfl, rfl, hw.eff⟩⟩))
 have hcut : CutOk bs (hd bs).phoff ((hd bs).phnum * (hd bs).phes) := .inr hq2
 have hR : 0 < (hd bs).phnum → (Value.slice (some ⟨ab, ao + (hd bs).phoff, none⟩) ((hd bs).phnum * (hd bs).phes) (c - (hd bs).phoff)) = Value.slice (some ⟨ab, ao + (hd bs).phoff, none⟩) ((hd bs).phnum * (hd bs).phes) (c - (hd bs).phoff) := fun _ => rfl
 refine sqM rfl rfl ?_
 iterate 2 refine sq_q (q_extract rfl rfl) rfl ?_
 iterate 2 refine sqA rfl rfl ?_
 refine sqK [0, 2, 5, 6, 12, 13, 14, 15, 16, 17, 18, 19] rfl ?_
 refine sc_seq ?_
 refine scR ?_
 refine sqM rfl rfl ?_
 refine sq_q (q_not' rfl) rfl ?_
 refine sqK [0, 2, 5, 6, 12, 13, 14, 15, 16, 17, 18, 197] rfl ?_
 refine sc_cond_f rfl ?_
 refine scS ?_
 iterate 2 refine scK [0, 2, 5, 6, 12, 13, 14, 15, 16, 17, 18] rfl ?_
 exact hnext hh hcut _ _ hR

theorem find_checks {bs : List UInt8} {ab ao c : Nat} {l : List Value} {e : TypeId} {fr : Nat × Nat} {w : World} (gx : Gs bs ab ao c l e fr w) (hnext : GC bs ab ao c l e fr w) : GB bs ab ao c l e fr w := by
 intro ha hsz fv
 obtain ⟨hl1, hl2, hl3, hl4, hl5, hl6, hl7, hl8, hl9, hl10, hl11⟩ := hd_lt bs
 have blen := gx.len
 have hcap := gx.cap
 have hcap2 := gx.cap2
 have hp1 : wd (isWide bs) 32 56 ≤ 56 := by cases isWide bs <;> decide
 have hp2 : wd (isWide bs) 40 64 ≤ 64 := by cases isWide bs <;> decide
 refine sc_seq ?_
 refine scR ?_
 refine sqM rfl rfl ?_
 refine sq_q (q_and rfl rfl (and255 (r := (hd bs).version % 256) (by omega) rfl)) rfl ?_
 refine sq_split (q_neq rfl rfl) rfl (fun h15_2 => ?_) (fun h15_2 => ?_)
 ·
  have hbad : ¬ HeadOk bs := fun hh => by
   have h9 := hh.ver4
   omega
  refine sqM rfl rfl ?_
  iterate 3 refine sq_gn rfl rfl rfl rfl ?_
  refine sqT rfl rfl rfl ?_
  refine sqM rfl rfl ?_
  iterate 3 refine sq_gn rfl rfl rfl rfl ?_
  refine sqT rfl rfl rfl ?_
  refine sqM rfl rfl ?_
  iterate 5 refine sq_gn rfl rfl rfl rfl ?_
  refine sqT rfl rfl rfl ?_
  refine sqM rfl rfl ?_
  iterate 3 refine sq_gn rfl rfl rfl rfl ?_
  iterate 3 refine sq_gu rfl rfl rfl ?_
  refine sq_gn rfl rfl rfl rfl ?_
  refine sqT rfl rfl rfl ?_
  refine sqM rfl rfl ?_
  iterate 3 refine sq_gn rfl rfl rfl rfl ?_
  iterate 4 refine sq_gu rfl rfl rfl ?_
  refine sq_gn rfl rfl rfl rfl ?_
  refine sqT rfl rfl rfl ?_
  refine sqM rfl rfl ?_
  iterate 3 refine sq_gn rfl rfl rfl rfl ?_
  iterate 4 refine sq_gu rfl rfl rfl ?_
  refine sq_gn rfl rfl rfl rfl ?_
  refine sqT rfl rfl rfl ?_
  refine sqK [0, 2, 5, 6, 11, 12, 13, 14, 15, 16, 17, 185] rfl ?_
  refine sc_cond_t rfl ?_
  refine scR ?_
  refine sq_q (q_loadK rfl Tryd.isAgg30 Tryd.sizeOf30 (i := 1) (vs := [.int .i64 ((bv bs 4 : Nat) : Int), .int .i64 ((bv bs 5 : Nat) : Int), .int .i64 ((bv bs 6 : Nat) : Int), .int .i64 ((bv bs 7 : Nat) : Int), .int .i64 ((bv bs 8 : Nat) : Int), .int .i64 ((hd bs).type : Int), .int .i64 ((hd bs).machine : Int), .int .u64 ((hd bs).entry : Int), .slice none 0 0, .slice none 0 0, .slice none 0 0, .slice none 0 0]) rfl rfl) rfl ?_
  refine sq_m0 (m_stores (i := 0) (vs := [.int .i64 ((bv bs 4 : Nat) : Int), .int .i64 ((bv bs 5 : Nat) : Int), .int .i64 ((bv bs 6 : Nat) : Int), .int .i64 ((bv bs 7 : Nat) : Int), .int .i64 ((bv bs 8 : Nat) : Int), .int .i64 ((hd bs).type : Int), .int .i64 ((hd bs).machine : Int), .int .u64 ((hd bs).entry : Int), .slice none 0 0, .slice none 0 0, .slice none 0 0, .slice none 0 0]) (l' := [.int .i64 ((bv bs 4 : Nat) : Int), .int .i64 ((bv bs 5 : Nat) : Int), .int .i64 ((bv bs 6 : Nat) : Int), .int .i64 ((bv bs 7 : Nat) : Int), .int .i64 ((bv bs 8 : Nat) : Int), .int .i64 ((hd bs).type : Int), .int .i64 ((hd bs).machine : Int), .int .u64 ((hd bs).entry : Int), .slice none 0 0, .slice none 0 0, .slice none 0 0, .slice none 0 0]) rfl rfl Tryd.sizeOf30 rfl rfl rfl (by simp) rfl rfl (by intro h; omega)) (fun _ _ => ?_)
  iterate 2 refine sqA rfl rfl ?_
  refine sqK [2, 3, 4] rfl ?_
  refine sc_ret ?_
  refine se_then_ret ?_
  exact se_end (resc2 Tryd.results5 rfl rfl rfl Tryd.isAgg30 Tryd.sizeOf30 (i := 0) rfl rfl) (fun w' hw => .inr (.inl ⟨fun hh => absurd hh hbad, fun hg => hbad hg.head, ⟨_, rfl, rfl, rfl, hw.eff⟩⟩))
 have hv4 : (hd bs).version % 256 = 1 := by omega
 refine sqM rfl rfl ?_
 refine sq_gy rfl rfl rfl ?_
 refine sqM rfl rfl ?_
 refine sq_gy rfl rfl rfl ?_
 refine sq_split (q_call (args1 rfl) Tryd.call11 (fun w hw => signed11)) rfl (fun h15_5 => ?_) (fun h15_5 => ?_)
 ·
  have _tok := trivial
  refine sq_gy rfl rfl rfl ?_
  refine sq_q (q_not' rfl) rfl ?_
  refine sqF rfl rfl rfl ?_
  refine sqM rfl rfl ?_
  refine sq_gy rfl rfl rfl ?_
  refine sqM rfl rfl ?_
  refine sq_gy rfl rfl rfl ?_
  refine sq_split (q_call (args1 rfl) Tryd.call11 (fun w hw => signed11)) rfl (fun h15_10 => ?_) (fun h15_10 => ?_)
  ·
   have _tok := trivial
   refine sq_gy rfl rfl rfl ?_
   refine sq_q (q_not' rfl) rfl ?_
   refine sqF rfl rfl rfl ?_
   refine sqM rfl rfl ?_
   refine sq_gy rfl rfl rfl ?_
   refine sqM rfl rfl ?_
   refine sq_gy rfl rfl rfl ?_
   refine sq_q (q_eql rfl rfl) rfl ?_
   refine sq_gy rfl rfl rfl ?_
   refine sqM rfl rfl ?_
   refine sq_gy rfl rfl rfl ?_
   refine sq_q (q_eql rfl rfl) rfl ?_
   refine sq_gy rfl rfl rfl ?_
   refine sq_splitb (q_bneq rfl rfl Tryd.runUnderlying4) rfl (fun h15_18 => ?_) (fun h15_18 => ?_)
   ·
    have hbad : ¬ HeadOk bs := fun hh => by
     have h8 := hh.zero
     have h9 : decide (((hd bs).shoff : Int) = 0) = decide (((hd bs).shnum : Int) = 0) := decide_eq_decide.2 (by omega)
     rw [h9] at h15_18
     simp at h15_18
    refine sqF rfl rfl rfl ?_
    refine sqM rfl rfl ?_
    iterate 3 refine sq_gn rfl rfl rfl rfl ?_
    iterate 3 refine sq_gu rfl rfl rfl ?_
    refine sq_gn rfl rfl rfl rfl ?_
    refine sqT rfl rfl rfl ?_
    refine sqM rfl rfl ?_
    iterate 3 refine sq_gn rfl rfl rfl rfl ?_
    iterate 4 refine sq_gu rfl rfl rfl ?_
    refine sq_gn rfl rfl rfl rfl ?_
    refine sqT rfl rfl rfl ?_
    refine sqM rfl rfl ?_
    iterate 3 refine sq_gn rfl rfl rfl rfl ?_
    iterate 4 refine sq_gu rfl rfl rfl ?_
    refine sq_gn rfl rfl rfl rfl ?_
    refine sqT rfl rfl rfl ?_
    refine sqK [0, 2, 5, 6, 11, 12, 13, 14, 15, 16, 17, 185] rfl ?_
    refine sc_cond_t rfl ?_
    refine scR ?_
    refine sq_q (q_loadK rfl Tryd.isAgg30 Tryd.sizeOf30 (i := 1) (vs := [.int .i64 ((bv bs 4 : Nat) : Int), .int .i64 ((bv bs 5 : Nat) : Int), .int .i64 ((bv bs 6 : Nat) : Int), .int .i64 ((bv bs 7 : Nat) : Int), .int .i64 ((bv bs 8 : Nat) : Int), .int .i64 ((hd bs).type : Int), .int .i64 ((hd bs).machine : Int), .int .u64 ((hd bs).entry : Int), .slice none 0 0, .slice none 0 0, .slice none 0 0, .slice none 0 0]) rfl rfl) rfl ?_
    refine sq_m0 (m_stores (i := 0) (vs := [.int .i64 ((bv bs 4 : Nat) : Int), .int .i64 ((bv bs 5 : Nat) : Int), .int .i64 ((bv bs 6 : Nat) : Int), .int .i64 ((bv bs 7 : Nat) : Int), .int .i64 ((bv bs 8 : Nat) : Int), .int .i64 ((hd bs).type : Int), .int .i64 ((hd bs).machine : Int), .int .u64 ((hd bs).entry : Int), .slice none 0 0, .slice none 0 0, .slice none 0 0, .slice none 0 0]) (l' := [.int .i64 ((bv bs 4 : Nat) : Int), .int .i64 ((bv bs 5 : Nat) : Int), .int .i64 ((bv bs 6 : Nat) : Int), .int .i64 ((bv bs 7 : Nat) : Int), .int .i64 ((bv bs 8 : Nat) : Int), .int .i64 ((hd bs).type : Int), .int .i64 ((hd bs).machine : Int), .int .u64 ((hd bs).entry : Int), .slice none 0 0, .slice none 0 0, .slice none 0 0, .slice none 0 0]) rfl rfl Tryd.sizeOf30 rfl rfl rfl (by simp) rfl rfl (by intro h; omega)) (fun _ _ => ?_)
    iterate 2 refine sqA rfl rfl ?_
    refine sqK [2, 3, 4] rfl ?_
    refine sc_ret ?_
    refine se_then_ret ?_
    exact se_end (resc2 Tryd.results5 rfl rfl rfl Tryd.isAgg30 Tryd.sizeOf30 (i := 0) rfl rfl) (fun w' hw => .inr (.inl ⟨fun hh => absurd hh hbad, fun hg => hbad hg.head, ⟨_, rfl, rfl, rfl, hw.eff⟩⟩))
   have hzero : (hd bs).shoff = 0 ↔ (hd bs).shnum = 0 := by
    have h9 := decide_eq_decide.1 (bne_eq_false_iff_eq.1 h15_18)
    omega
   refine sqF rfl rfl rfl ?_
   refine sqM rfl rfl ?_
   refine sq_gy rfl rfl rfl ?_
   refine sqM rfl rfl ?_
   refine sq_gy rfl rfl rfl ?_
   refine sq_split (q_gtr rfl rfl) rfl (fun h15_22 => ?_) (fun h15_22 => ?_)
   ·
    have _tok := trivial
    refine sq_gy rfl rfl rfl ?_
    refine sqM rfl rfl ?_
    refine sq_gy rfl rfl rfl ?_
    refine sqM rfl rfl ?_
    refine sq_gy rfl rfl rfl ?_
    refine sqM rfl rfl ?_
    refine sq_gy rfl rfl rfl ?_
    refine sq_split (q_geq rfl rfl) rfl (fun h15_26 => ?_) (fun h15_26 => ?_)
    ·
     have hbad : ¬ HeadOk bs := fun hh => by
      have h9 := hh.nm
      omega
     refine sq_gy rfl rfl rfl ?_
     refine sqT rfl rfl rfl ?_
     refine sqF rfl rfl rfl ?_
     refine sqM rfl rfl ?_
     iterate 3 refine sq_gn rfl rfl rfl rfl ?_
     iterate 4 refine sq_gu rfl rfl rfl ?_
     refine sq_gn rfl rfl rfl rfl ?_
     refine sqT rfl rfl rfl ?_
     refine sqM rfl rfl ?_
     iterate 3 refine sq_gn rfl rfl rfl rfl ?_
     iterate 4 refine sq_gu rfl rfl rfl ?_
     refine sq_gn rfl rfl rfl rfl ?_
     refine sqT rfl rfl rfl ?_
     refine sqK [0, 2, 5, 6, 11, 12, 13, 14, 15, 16, 17, 185] rfl ?_
     refine sc_cond_t rfl ?_
     refine scR ?_
     refine sq_q (q_loadK rfl Tryd.isAgg30 Tryd.sizeOf30 (i := 1) (vs := [.int .i64 ((bv bs 4 : Nat) : Int), .int .i64 ((bv bs 5 : Nat) : Int), .int .i64 ((bv bs 6 : Nat) : Int), .int .i64 ((bv bs 7 : Nat) : Int), .int .i64 ((bv bs 8 : Nat) : Int), .int .i64 ((hd bs).type : Int), .int .i64 ((hd bs).machine : Int), .int .u64 ((hd bs).entry : Int), .slice none 0 0, .slice none 0 0, .slice none 0 0, .slice none 0 0]) rfl rfl) rfl ?_
     refine sq_m0 (m_stores (i := 0) (vs := [.int .i64 ((bv bs 4 : Nat) : Int), .int .i64 ((bv bs 5 : Nat) : Int), .int .i64 ((bv bs 6 : Nat) : Int), .int .i64 ((bv bs 7 : Nat) : Int), .int .i64 ((bv bs 8 : Nat) : Int), .int .i64 ((hd bs).type : Int), .int .i64 ((hd bs).machine : Int), .int .u64 ((hd bs).entry : Int), .slice none 0 0, .slice none 0 0, .slice none 0 0, .slice none 0 0]) (l' := [.int .i64 ((bv bs 4 : Nat) : Int), .int .i64 ((bv bs 5 : Nat) : Int), .int .i64 ((bv bs 6 : Nat) : Int), .int .i64 ((bv bs 7 : Nat) : Int), .int .i64 ((bv bs 8 : Nat) : Int), .int .i64 ((hd bs).type : Int), .int .i64 ((hd bs).machine : Int), .int .u64 ((hd bs).entry : Int), .slice none 0 0, .slice none 0 0, .slice none 0 0, .slice none 0 0]) rfl rfl Tryd.sizeOf30 rfl rfl rfl (by simp) rfl rfl (by intro h; omega)) (fun _ _ => ?_)
     iterate 2 refine sqA rfl rfl ?_
     refine sqK [2, 3, 4] rfl ?_
     refine sc_ret ?_
     refine se_then_ret ?_
     exact se_end (resc2 Tryd.results5 rfl rfl rfl Tryd.isAgg30 Tryd.sizeOf30 (i := 0) rfl rfl) (fun w' hw => .inr (.inl ⟨fun hh => absurd hh hbad, fun hg => hbad hg.head, ⟨_, rfl, rfl, rfl, hw.eff⟩⟩))
    refine sq_gy rfl rfl rfl ?_
    refine sqT rfl rfl rfl ?_
    refine sqF rfl rfl rfl ?_
    refine sqM rfl rfl ?_
    refine sq_gy rfl rfl rfl ?_
    refine sqM rfl rfl ?_
    refine sq_gy rfl rfl rfl ?_
    refine sq_split (q_gtr rfl rfl) rfl (fun h15_31 => ?_) (fun h15_31 => ?_)
    ·
     have _tok := trivial
     refine sq_gy rfl rfl rfl ?_
     refine sqM rfl rfl ?_
     refine sq_gy rfl rfl rfl ?_
     refine sqM rfl rfl ?_
     refine sq_gy rfl rfl rfl ?_
     refine sqM rfl rfl ?_
     refine sq_gy rfl rfl rfl ?_
     refine sq_q (q_conv rfl Tryd.runUnderlying3 Tryd.runUnderlying23 (w_u64 (by omega) (by omega))) rfl ?_
     refine sq_gy rfl rfl rfl ?_
     refine sq_split (q_lss rfl rfl) rfl (fun h15_36 => ?_) (fun h15_36 => ?_)
     ·
      have hbad : ¬ HeadOk bs := fun hh => by
       have h9 := hh.phe
       omega
      refine sq_gy rfl rfl rfl ?_
      refine sqT rfl rfl rfl ?_
      refine sqF rfl rfl rfl ?_
      refine sqM rfl rfl ?_
      iterate 3 refine sq_gn rfl rfl rfl rfl ?_
      iterate 4 refine sq_gu rfl rfl rfl ?_
      refine sq_gn rfl rfl rfl rfl ?_
      refine sqT rfl rfl rfl ?_
      refine sqK [0, 2, 5, 6, 11, 12, 13, 14, 15, 16, 17, 185] rfl ?_
      refine sc_cond_t rfl ?_
      refine scR ?_
      refine sq_q (q_loadK rfl Tryd.isAgg30 Tryd.sizeOf30 (i := 1) (vs := [.int .i64 ((bv bs 4 : Nat) : Int), .int .i64 ((bv bs 5 : Nat) : Int), .int .i64 ((bv bs 6 : Nat) : Int), .int .i64 ((bv bs 7 : Nat) : Int), .int .i64 ((bv bs 8 : Nat) : Int), .int .i64 ((hd bs).type : Int), .int .i64 ((hd bs).machine : Int), .int .u64 ((hd bs).entry : Int), .slice none 0 0, .slice none 0 0, .slice none 0 0, .slice none 0 0]) rfl rfl) rfl ?_
      refine sq_m0 (m_stores (i := 0) (vs := [.int .i64 ((bv bs 4 : Nat) : Int), .int .i64 ((bv bs 5 : Nat) : Int), .int .i64 ((bv bs 6 : Nat) : Int), .int .i64 ((bv bs 7 : Nat) : Int), .int .i64 ((bv bs 8 : Nat) : Int), .int .i64 ((hd bs).type : Int), .int .i64 ((hd bs).machine : Int), .int .u64 ((hd bs).entry : Int), .slice none 0 0, .slice none 0 0, .slice none 0 0, .slice none 0 0]) (l' := [.int .i64 ((bv bs 4 : Nat) : Int), .int .i64 ((bv bs 5 : Nat) : Int), .int .i64 ((bv bs 6 : Nat) : Int), .int .i64 ((bv bs 7 : Nat) : Int), .int .i64 ((bv bs 8 : Nat) : Int), .int .i64 ((hd bs).type : Int), .int .i64 ((hd bs).machine : Int), .int .u64 ((hd bs).entry : Int), .slice none 0 0, .slice none 0 0, .slice none 0 0, .slice none 0 0]) rfl rfl Tryd.sizeOf30 rfl rfl rfl (by simp) rfl rfl (by intro h; omega)) (fun _ _ => ?_)
      iterate 2 refine sqA rfl rfl ?_
      refine sqK [2, 3, 4] rfl ?_
      refine sc_ret ?_
      refine se_then_ret ?_
      exact se_end (resc2 Tryd.results5 rfl rfl rfl Tryd.isAgg30 Tryd.sizeOf30 (i := 0) rfl rfl) (fun w' hw => .inr (.inl ⟨fun hh => absurd hh hbad, fun hg => hbad hg.head, ⟨_, rfl, rfl, rfl, hw.eff⟩⟩))
     refine sq_gy rfl rfl rfl ?_
     refine sqT rfl rfl rfl ?_
     refine sqF rfl rfl rfl ?_
     refine sqM rfl rfl ?_
     refine sq_gy rfl rfl rfl ?_
     refine sqM rfl rfl ?_
     refine sq_gy rfl rfl rfl ?_
     refine sq_split (q_gtr rfl rfl) rfl (fun h15_41 => ?_) (fun h15_41 => ?_)
     ·
      have _tok := trivial
      refine sq_gy rfl rfl rfl ?_
      refine sqM rfl rfl ?_
      refine sq_gy rfl rfl rfl ?_
      refine sqM rfl rfl ?_
      refine sq_gy rfl rfl rfl ?_
      refine sqM rfl rfl ?_
      refine sq_gy rfl rfl rfl ?_
      refine sq_q (q_conv rfl Tryd.runUnderlying3 Tryd.runUnderlying23 (w_u64 (by omega) (by omega))) rfl ?_
      refine sq_gy rfl rfl rfl ?_
      refine sq_split (q_lss rfl rfl) rfl (fun h15_46 => ?_) (fun h15_46 => ?_)
      ·
       have hbad : ¬ HeadOk bs := fun hh => by
        have h9 := hh.she
        omega
       refine sq_gy rfl rfl rfl ?_
       refine sqT rfl rfl rfl ?_
       refine sqF rfl rfl rfl ?_
       refine sqK [0, 2, 5, 6, 11, 12, 13, 14, 15, 16, 17, 185] rfl ?_
       refine sc_cond_t rfl ?_
       refine scR ?_
       refine sq_q (q_loadK rfl Tryd.isAgg30 Tryd.sizeOf30 (i := 1) (vs := [.int .i64 ((bv bs 4 : Nat) : Int), .int .i64 ((bv bs 5 : Nat) : Int), .int .i64 ((bv bs 6 : Nat) : Int), .int .i64 ((bv bs 7 : Nat) : Int), .int .i64 ((bv bs 8 : Nat) : Int), .int .i64 ((hd bs).type : Int), .int .i64 ((hd bs).machine : Int), .int .u64 ((hd bs).entry : Int), .slice none 0 0, .slice none 0 0, .slice none 0 0, .slice none 0 0]) rfl rfl) rfl ?_
       refine sq_m0 (m_stores (i := 0) (vs := [.int .i64 ((bv bs 4 : Nat) : Int), .int .i64 ((bv bs 5 : Nat) : Int), .int .i64 ((bv bs 6 : Nat) : Int), .int .i64 ((bv bs 7 : Nat) : Int), .int .i64 ((bv bs 8 : Nat) : Int), .int .i64 ((hd bs).type : Int), .int .i64 ((hd bs).machine : Int), .int .u64 ((hd bs).entry : Int), .slice none 0 0, .slice none 0 0, .slice none 0 0, .slice none 0 0]) (l' := [.int .i64 ((bv bs 4 : Nat) : Int), .int .i64 ((bv bs 5 : Nat) : Int), .int .i64 ((bv bs 6 : Nat) : Int), .int .i64 ((bv bs 7 : Nat) : Int), .int .i64 ((bv bs 8 : Nat) : Int), .int .i64 ((hd bs).type : Int), .int .i64 ((hd bs).machine : Int), .int .u64 ((hd bs).entry : Int), .slice none 0 0, .slice none 0 0, .slice none 0 0, .slice none 0 0]) rfl rfl Tryd.sizeOf30 rfl rfl rfl (by simp) rfl rfl (by intro h; omega)) (fun _ _ => ?_)
       iterate 2 refine sqA rfl rfl ?_
       refine sqK [2, 3, 4] rfl ?_
       refine sc_ret ?_
       refine se_then_ret ?_
       exact se_end (resc2 Tryd.results5 rfl rfl rfl Tryd.isAgg30 Tryd.sizeOf30 (i := 0) rfl rfl) (fun w' hw => .inr (.inl ⟨fun hh => absurd hh hbad, fun hg => hbad hg.head, ⟨_, rfl, rfl, rfl, hw.eff⟩⟩))
      refine sq_gy rfl rfl rfl ?_
      refine sqT rfl rfl rfl ?_
      refine sqF rfl rfl rfl ?_
      refine sqK [0, 2, 5, 6, 11, 12, 13, 14, 15, 16, 17, 185] rfl ?_
      refine sc_cond_f rfl ?_
      refine scS ?_
      iterate 2 refine scK [0, 2, 5, 6, 11, 12, 13, 14, 15, 16, 17] rfl ?_
      exact find_table gx hnext ⟨ha.len, ha.m0, ha.m1, ha.m2, ha.m3, ha.cls, ha.dat, ha.ver, hsz, hv4, h15_5, h15_10, hzero, by omega, by omega, by omega⟩ fv
     refine sq_gy rfl rfl rfl ?_
     refine sqM rfl rfl ?_
     iterate 4 refine sq_gn rfl rfl rfl rfl ?_
     refine sq_gy rfl rfl rfl ?_
     iterate 2 refine sqF rfl rfl rfl ?_
     refine sqK [0, 2, 5, 6, 11, 12, 13, 14, 15, 16, 17, 185] rfl ?_
     refine sc_cond_f rfl ?_
     refine scS ?_
     iterate 2 refine scK [0, 2, 5, 6, 11, 12, 13, 14, 15, 16, 17] rfl ?_
     exact find_table gx hnext ⟨ha.len, ha.m0, ha.m1, ha.m2, ha.m3, ha.cls, ha.dat, ha.ver, hsz, hv4, h15_5, h15_10, hzero, by omega, by omega, by omega⟩ fv
    refine sq_gy rfl rfl rfl ?_
    refine sqM rfl rfl ?_
    iterate 4 refine sq_gn rfl rfl rfl rfl ?_
    refine sq_gy rfl rfl rfl ?_
    iterate 2 refine sqF rfl rfl rfl ?_
    refine sqM rfl rfl ?_
    refine sq_gy rfl rfl rfl ?_
    refine sqM rfl rfl ?_
    refine sq_gy rfl rfl rfl ?_
    refine sq_split (q_gtr rfl rfl) rfl (fun h15_41 => ?_) (fun h15_41 => ?_)
    ·
     have _tok := trivial
     refine sq_gy rfl rfl rfl ?_
     refine sqM rfl rfl ?_
     refine sq_gy rfl rfl rfl ?_
     refine sqM rfl rfl ?_
     refine sq_gy rfl rfl rfl ?_
     refine sqM rfl rfl ?_
     refine sq_gy rfl rfl rfl ?_
     refine sq_q (q_conv rfl Tryd.runUnderlying3 Tryd.runUnderlying23 (w_u64 (by omega) (by omega))) rfl ?_
     refine sq_gy rfl rfl rfl ?_
     refine sq_split (q_lss rfl rfl) rfl (fun h15_46 => ?_) (fun h15_46 => ?_)
     ·
      have hbad : ¬ HeadOk bs := fun hh => by
       have h9 := hh.she
       omega
      refine sq_gy rfl rfl rfl ?_
      refine sqT rfl rfl rfl ?_
      refine sqF rfl rfl rfl ?_
      refine sqK [0, 2, 5, 6, 11, 12, 13, 14, 15, 16, 17, 185] rfl ?_
      refine sc_cond_t rfl ?_
      refine scR ?_
      refine sq_q (q_loadK rfl Tryd.isAgg30 Tryd.sizeOf30 (i := 1) (vs := [.int .i64 ((bv bs 4 : Nat) : Int), .int .i64 ((bv bs 5 : Nat) : Int), .int .i64 ((bv bs 6 : Nat) : Int), .int .i64 ((bv bs 7 : Nat) : Int), .int .i64 ((bv bs 8 : Nat) : Int), .int .i64 ((hd bs).type : Int), .int .i64 ((hd bs).machine : Int), .int .u64 ((hd bs).entry : Int), .slice none 0 0, .slice none 0 0, .slice none 0 0, .slice none 0 0]) rfl rfl) rfl ?_
      refine sq_m0 (m_stores (i := 0) (vs := [.int .i64 ((bv bs 4 : Nat) : Int), .int .i64 ((bv bs 5 : Nat) : Int), .int .i64 ((bv bs 6 : Nat) : Int), .int .i64 ((bv bs 7 : Nat) : Int), .int .i64 ((bv bs 8 : Nat) : Int), .int .i64 ((hd bs).type : Int), .int .i64 ((hd bs).machine : Int), .int .u64 ((hd bs).entry : Int), .slice none 0 0, .slice none 0 0, .slice none 0 0, .slice none 0 0]) (l' := [.int .i64 ((bv bs 4 : Nat) : Int), .int .i64 ((bv bs 5 : Nat) : Int), .int .i64 ((bv bs 6 : Nat) : Int), .int .i64 ((bv bs 7 : Nat) : Int), .int .i64 ((bv bs 8 : Nat) : Int), .int .i64 ((hd bs).type : Int), .int .i64 ((hd bs).machine : Int), .int .u64 ((hd bs).entry : Int), .slice none 0 0, .slice none 0 0, .slice none 0 0, .slice none 0 0]) rfl rfl Tryd.sizeOf30 rfl rfl rfl (by simp) rfl rfl (by intro h; omega)) (fun _ _ => ?_)
      iterate 2 refine sqA rfl rfl ?_
      refine sqK [2, 3, 4] rfl ?_
      refine sc_ret ?_
      refine se_then_ret ?_
      exact se_end (resc2 Tryd.results5 rfl rfl rfl Tryd.isAgg30 Tryd.sizeOf30 (i := 0) rfl rfl) (fun w' hw => .inr (.inl ⟨fun hh => absurd hh hbad, fun hg => hbad hg.head, ⟨_, rfl, rfl, rfl, hw.eff⟩⟩))
     refine sq_gy rfl rfl rfl ?_
     refine sqT rfl rfl rfl ?_
     refine sqF rfl rfl rfl ?_
     refine sqK [0, 2, 5, 6, 11, 12, 13, 14, 15, 16, 17, 185] rfl ?_
     refine sc_cond_f rfl ?_
     refine scS ?_
     iterate 2 refine scK [0, 2, 5, 6, 11, 12, 13, 14, 15, 16, 17] rfl ?_
     exact find_table gx hnext ⟨ha.len, ha.m0, ha.m1, ha.m2, ha.m3, ha.cls, ha.dat, ha.ver, hsz, hv4, h15_5, h15_10, hzero, by omega, by omega, by omega⟩ fv
    refine sq_gy rfl rfl rfl ?_
    refine sqM rfl rfl ?_
    iterate 4 refine sq_gn rfl rfl rfl rfl ?_
    refine sq_gy rfl rfl rfl ?_
    iterate 2 refine sqF rfl rfl rfl ?_
    refine sqK [0, 2, 5, 6, 11, 12, 13, 14, 15, 16, 17, 185] rfl ?_
    refine sc_cond_f rfl ?_
    refine scS ?_
    iterate 2 refine scK [0, 2, 5, 6, 11, 12, 13, 14, 15, 16, 17] rfl ?_
    exact find_table gx hnext ⟨ha.len, ha.m0, ha.m1, ha.m2, ha.m3, ha.cls, ha.dat, ha.ver, hsz, hv4, h15_5, h15_10, hzero, by omega, by omega, by omega⟩ fv
   refine sq_gy rfl rfl rfl ?_
   refine sqM rfl rfl ?_
   iterate 3 refine sq_gn rfl rfl rfl rfl ?_
   refine sq_gy rfl rfl rfl ?_
   iterate 2 refine sqF rfl rfl rfl ?_
   refine sqM rfl rfl ?_
   refine sq_gy rfl rfl rfl ?_
   refine sqM rfl rfl ?_
   refine sq_gy rfl rfl rfl ?_
   refine sq_split (q_gtr rfl rfl) rfl (fun h15_31 => ?_) (fun h15_31 => ?_)
   ·
    have _tok := trivial
    refine sq_gy rfl rfl rfl ?_
    refine sqM rfl rfl ?_
    refine sq_gy rfl rfl rfl ?_
    refine sqM rfl rfl ?_
    refine sq_gy rfl rfl rfl ?_
    refine sqM rfl rfl ?_
    refine sq_gy rfl rfl rfl ?_
    refine sq_q (q_conv rfl Tryd.runUnderlying3 Tryd.runUnderlying23 (w_u64 (by omega) (by omega))) rfl ?_
    refine sq_gy rfl rfl rfl ?_
    refine sq_split (q_lss rfl rfl) rfl (fun h15_36 => ?_) (fun h15_36 => ?_)
    ·
     have hbad : ¬ HeadOk bs := fun hh => by
      have h9 := hh.phe
      omega
     refine sq_gy rfl rfl rfl ?_
     refine sqT rfl rfl rfl ?_
     refine sqF rfl rfl rfl ?_
     refine sqM rfl rfl ?_
     iterate 3 refine sq_gn rfl rfl rfl rfl ?_
     iterate 4 refine sq_gu rfl rfl rfl ?_
     refine sq_gn rfl rfl rfl rfl ?_
     refine sqT rfl rfl rfl ?_
     refine sqK [0, 2, 5, 6, 11, 12, 13, 14, 15, 16, 17, 185] rfl ?_
     refine sc_cond_t rfl ?_
     refine scR ?_
     refine sq_q (q_loadK rfl Tryd.isAgg30 Tryd.sizeOf30 (i := 1) (vs := [.int .i64 ((bv bs 4 : Nat) : Int), .int .i64 ((bv bs 5 : Nat) : Int), .int .i64 ((bv bs 6 : Nat) : Int), .int .i64 ((bv bs 7 : Nat) : Int), .int .i64 ((bv bs 8 : Nat) : Int), .int .i64 ((hd bs).type : Int), .int .i64 ((hd bs).machine : Int), .int .u64 ((hd bs).entry : Int), .slice none 0 0, .slice none 0 0, .slice none 0 0, .slice none 0 0]) rfl rfl) rfl ?_
     refine sq_m0 (m_stores (i := 0) (vs := [.int .i64 ((bv bs 4 : Nat) : Int), .int .i64 ((bv bs 5 : Nat) : Int), .int .i64 ((bv bs 6 : Nat) : Int), .int .i64 ((bv bs 7 : Nat) : Int), .int .i64 ((bv bs 8 : Nat) : Int), .int .i64 ((hd bs).type : Int), .int .i64 ((hd bs).machine : Int), .int .u64 ((hd bs).entry : Int), .slice none 0 0, .slice none 0 0, .slice none 0 0, .slice none 0 0]) (l' := [.int .i64 ((bv bs 4 : Nat) : Int), .int .i64 ((bv bs 5 : Nat) : Int), .int .i64 ((bv bs 6 : Nat) : Int), .int .i64 ((bv bs 7 : Nat) : Int), .int .i64 ((bv bs 8 : Nat) : Int), .int .i64 ((hd bs).type : Int), .int .i64 ((hd bs).machine : Int), .int .u64 ((hd bs).entry : Int), .slice none 0 0, .slice none 0 0, .slice none 0 0, .slice none 0 0]) rfl rfl Tryd.sizeOf30 rfl rfl rfl (by simp) rfl rfl (by intro h; omega)) (fun _ _ => ?_)
     iterate 2 refine sqA rfl rfl ?_
     refine sqK [2, 3, 4] rfl ?_
     refine sc_ret ?_
     refine se_then_ret ?_
     exact se_end (resc2 Tryd.results5 rfl rfl rfl Tryd.isAgg30 Tryd.sizeOf30 (i := 0) rfl rfl) (fun w' hw => .inr (.inl ⟨fun hh => absurd hh hbad, fun hg => hbad hg.head, ⟨_, rfl, rfl, rfl, hw.eff⟩⟩))
    refine sq_gy rfl rfl rfl ?_
    refine sqT rfl rfl rfl ?_
    refine sqF rfl rfl rfl ?_
    refine sqM rfl rfl ?_
    refine sq_gy rfl rfl rfl ?_
    refine sqM rfl rfl ?_
    refine sq_gy rfl rfl rfl ?_
    refine sq_split (q_gtr rfl rfl) rfl (fun h15_41 => ?_) (fun h15_41 => ?_)
    ·
     have _tok := trivial
     refine sq_gy rfl rfl rfl ?_
     refine sqM rfl rfl ?_
     refine sq_gy rfl rfl rfl ?_
     refine sqM rfl rfl ?_
     refine sq_gy rfl rfl rfl ?_
     refine sqM rfl rfl ?_
     refine sq_gy rfl rfl rfl ?_
     refine sq_q (q_conv rfl Tryd.runUnderlying3 Tryd.runUnderlying23 (w_u64 (by omega) (by omega))) rfl ?_
     refine sq_gy rfl rfl rfl ?_
     refine sq_split (q_lss rfl rfl) rfl (fun h15_46 => ?_) (fun h15_46 => ?_)
     ·
      have hbad : ¬ HeadOk bs := fun hh => by
       have h9 := hh.she
       omega
      refine sq_gy rfl rfl rfl ?_
      refine sqT rfl rfl rfl ?_
      refine sqF rfl rfl rfl ?_
      refine sqK [0, 2, 5, 6, 11, 12, 13, 14, 15, 16, 17, 185] rfl ?_
      refine sc_cond_t rfl ?_
      refine scR ?_
      refine sq_q (q_loadK rfl Tryd.isAgg30 Tryd.sizeOf30 (i := 1) (vs := [.int .i64 ((bv bs 4 : Nat) : Int), .int .i64 ((bv bs 5 : Nat) : Int), .int .i64 ((bv bs 6 : Nat) : Int), .int .i64 ((bv bs 7 : Nat) : Int), .int .i64 ((bv bs 8 : Nat) : Int), .int .i64 ((hd bs).type : Int), .int .i64 ((hd bs).machine : Int), .int .u64 ((hd bs).entry : Int), .slice none 0 0, .slice none 0 0, .slice none 0 0, .slice none 0 0]) rfl rfl) rfl ?_
      refine sq_m0 (m_stores (i := 0) (vs := [.int .i64 ((bv bs 4 : Nat) : Int), .int .i64 ((bv bs 5 : Nat) : Int), .int .i64 ((bv bs 6 : Nat) : Int), .int .i64 ((bv bs 7 : Nat) : Int), .int .i64 ((bv bs 8 : Nat) : Int), .int .i64 ((hd bs).type : Int), .int .i64 ((hd bs).machine : Int), .int .u64 ((hd bs).entry : Int), .slice none 0 0, .slice none 0 0, .slice none 0 0, .slice none 0 0]) (l' := [.int .i64 ((bv bs 4 : Nat) : Int), .int .i64 ((bv bs 5 : Nat) : Int), .int .i64 ((bv bs 6 : Nat) : Int), .int .i64 ((bv bs 7 : Nat) : Int), .int .i64 ((bv bs 8 : Nat) : Int), .int .i64 ((hd bs).type : Int), .int .i64 ((hd bs).machine : Int), .int .u64 ((hd bs).entry : Int), .slice none 0 0, .slice none 0 0, .slice none 0 0, .slice none 0 0]) rfl rfl Tryd.sizeOf30 rfl rfl rfl (by simp) rfl rfl (by intro h; omega)) (fun _ _ => ?_)
      iterate 2 refine sqA rfl rfl ?_
      refine sqK [2, 3, 4] rfl ?_
      refine sc_ret ?_
      refine se_then_ret ?_
      exact se_end (resc2 Tryd.results5 rfl rfl rfl Tryd.isAgg30 Tryd.sizeOf30 (i := 0) rfl rfl) (fun w' hw => .inr (.inl ⟨fun hh => absurd hh hbad, fun hg => hbad hg.head, ⟨_, rfl, rfl, rfl, hw.eff⟩⟩))
     refine sq_gy rfl rfl rfl ?_
     refine sqT rfl rfl rfl ?_
     refine sqF rfl rfl rfl ?_
     refine sqK [0, 2, 5, 6, 11, 12, 13, 14, 15, 16, 17, 185] rfl ?_
     refine sc_cond_f rfl ?_
     refine scS ?_
     iterate 2 refine scK [0, 2, 5, 6, 11, 12, 13, 14, 15, 16, 17] rfl ?_
     exact find_table gx hnext ⟨ha.len, ha.m0, ha.m1, ha.m2, ha.m3, ha.cls, ha.dat, ha.ver, hsz, hv4, h15_5, h15_10, hzero, by omega, by omega, by omega⟩ fv
    refine sq_gy rfl rfl rfl ?_
    refine sqM rfl rfl ?_
    iterate 4 refine sq_gn rfl rfl rfl rfl ?_
    refine sq_gy rfl rfl rfl ?_
    iterate 2 refine sqF rfl rfl rfl ?_
    refine sqK [0, 2, 5, 6, 11, 12, 13, 14, 15, 16, 17, 185] rfl ?_
    refine sc_cond_f rfl ?_
    refine scS ?_
    iterate 2 refine scK [0, 2, 5, 6, 11, 12, 13, 14, 15, 16, 17] rfl ?_
    exact find_table gx hnext ⟨ha.len, ha.m0, ha.m1, ha.m2, ha.m3, ha.cls, ha.dat, ha.ver, hsz, hv4, h15_5, h15_10, hzero, by omega, by omega, by omega⟩ fv
   refine sq_gy rfl rfl rfl ?_
   refine sqM rfl rfl ?_
   iterate 4 refine sq_gn rfl rfl rfl rfl ?_
   refine sq_gy rfl rfl rfl ?_
   iterate 2 refine sqF rfl rfl rfl ?_
   refine sqM rfl rfl ?_
   refine sq_gy rfl rfl rfl ?_
   refine sqM rfl rfl ?_
   refine sq_gy rfl rfl rfl ?_
   refine sq_split (q_gtr rfl rfl) rfl (fun h15_41 => ?_) (fun h15_41 => ?_)
   ·
    have _tok := trivial
    refine sq_gy rfl rfl rfl ?_
    refine sqM rfl rfl ?_
    refine sq_gy rfl rfl rfl ?_
    refine sqM rfl rfl ?_
    refine sq_gy rfl rfl rfl ?_
    refine sqM rfl rfl ?_
    refine sq_gy rfl rfl rfl ?_
    refine sq_q (q_conv rfl Tryd.runUnderlying3 Tryd.runUnderlying23 (w_u64 (by omega) (by omega))) rfl ?_
    refine sq_gy rfl rfl rfl ?_
    refine sq_split (q_lss rfl rfl) rfl (fun h15_46 => ?_) (fun h15_46 => ?_)
    ·
     have hbad : ¬ HeadOk bs := fun hh => by
      have h9 := hh.she
      omega
     refine sq_gy rfl rfl rfl ?_
     refine sqT rfl rfl rfl ?_
     refine sqF rfl rfl rfl ?_
     refine sqK [0, 2, 5, 6, 11, 12, 13, 14, 15, 16, 17, 185] rfl ?_
     refine sc_cond_t rfl ?_
     refine scR ?_
     refine sq_q (q_loadK rfl Tryd.isAgg30 Tryd.sizeOf30 (i := 1) (vs := [.int .i64 ((bv bs 4 : Nat) : Int), .int .i64 ((bv bs 5 : Nat) : Int), .int .i64 ((bv bs 6 : Nat) : Int), .int .i64 ((bv bs 7 : Nat) : Int), .int .i64 ((bv bs 8 : Nat) : Int), .int .i64 ((hd bs).type : Int), .int .i64 ((hd bs).machine : Int), .int .u64 ((hd bs).entry : Int), .slice none 0 0, .slice none 0 0, .slice none 0 0, .slice none 0 0]) rfl rfl) rfl ?_
     refine sq_m0 (m_stores (i := 0) (vs := [.int .i64 ((bv bs 4 : Nat) : Int), .int .i64 ((bv bs 5 : Nat) : Int), .int .i64 ((bv bs 6 : Nat) : Int), .int .i64 ((bv bs 7 : Nat) : Int), .int .i64 ((bv bs 8 : Nat) : Int), .int .i64 ((hd bs).type : Int), .int .i64 ((hd bs).machine : Int), .int .u64 ((hd bs).entry : Int), .slice none 0 0, .slice none 0 0, .slice none 0 0, .slice none 0 0]) (l' := [.int .i64 ((bv bs 4 : Nat) : Int), .int .i64 ((bv bs 5 : Nat) : Int), .int .i64 ((bv bs 6 : Nat) : Int), .int .i64 ((bv bs 7 : Nat) : Int), .int .i64 ((bv bs 8 : Nat) : Int), .int .i64 ((hd bs).type : Int), .int .i64 ((hd bs).machine : Int), .int .u64 ((hd bs).entry : Int), .slice none 0 0, .slice none 0 0, .slice none 0 0, .slice none 0 0]) rfl rfl Tryd.sizeOf30 rfl rfl rfl (by simp) rfl rfl (by intro h; omega)) (fun _ _ => ?_)
     iterate 2 refine sqA rfl rfl ?_
     refine sqK [2, 3, 4] rfl ?_
     refine sc_ret ?_
     refine se_then_ret ?_
     exact se_end (resc2 Tryd.results5 rfl rfl rfl Tryd.isAgg30 Tryd.sizeOf30 (i := 0) rfl rfl) (fun w' hw => .inr (.inl ⟨fun hh => absurd hh hbad, fun hg => hbad hg.head, ⟨_, rfl, rfl, rfl, hw.eff⟩⟩))
    refine sq_gy rfl rfl rfl ?_
    refine sqT rfl rfl rfl ?_
    refine sqF rfl rfl rfl ?_
    refine sqK [0, 2, 5, 6, 11, 12, 13, 14, 15, 16, 17, 185] rfl ?_
    refine sc_cond_f rfl ?_
    refine scS ?_
    iterate 2 refine scK [0, 2, 5, 6, 11, 12, 13, 14, 15, 16, 17] rfl ?_
    exact find_table gx hnext ⟨ha.len, ha.m0, ha.m1, ha.m2, ha.m3, ha.cls, ha.dat, ha.ver, hsz, hv4, h15_5, h15_10, hzero, by omega, by omega, by omega⟩ fv
   refine sq_gy rfl rfl rfl ?_
   refine sqM rfl rfl ?_
   iterate 4 refine sq_gn rfl rfl rfl rfl ?_
   refine sq_gy rfl rfl rfl ?_
   iterate 2 refine sqF rfl rfl rfl ?_
   refine sqK [0, 2, 5, 6, 11, 12, 13, 14, 15, 16, 17, 185] rfl ?_
   refine sc_cond_f rfl ?_
   refine scS ?_
   iterate 2 refine scK [0, 2, 5, 6, 11, 12, 13, 14, 15, 16, 17] rfl ?_
   exact find_table gx hnext ⟨ha.len, ha.m0, ha.m1, ha.m2, ha.m3, ha.cls, ha.dat, ha.ver, hsz, hv4, h15_5, h15_10, hzero, by omega, by omega, by omega⟩ fv
  have hbad : ¬ HeadOk bs := fun hh => by
   have h9 := hh.sh
   omega
  refine sq_gy rfl rfl rfl ?_
  refine sq_q (q_not' rfl) rfl ?_
  refine sqF rfl rfl rfl ?_
  refine sqM rfl rfl ?_
  iterate 5 refine sq_gn rfl rfl rfl rfl ?_
  refine sqT rfl rfl rfl ?_
  refine sqM rfl rfl ?_
  iterate 3 refine sq_gn rfl rfl rfl rfl ?_
  iterate 3 refine sq_gu rfl rfl rfl ?_
  refine sq_gn rfl rfl rfl rfl ?_
  refine sqT rfl rfl rfl ?_
  refine sqM rfl rfl ?_
  iterate 3 refine sq_gn rfl rfl rfl rfl ?_
  iterate 4 refine sq_gu rfl rfl rfl ?_
  refine sq_gn rfl rfl rfl rfl ?_
  refine sqT rfl rfl rfl ?_
  refine sqM rfl rfl ?_
  iterate 3 refine sq_gn rfl rfl rfl rfl ?_
  iterate 4 refine sq_gu rfl rfl rfl ?_
  refine sq_gn rfl rfl rfl rfl ?_
  refine sqT rfl rfl rfl ?_
  refine sqK [0, 2, 5, 6, 11, 12, 13, 14, 15, 16, 17, 185] rfl ?_
  refine sc_cond_t rfl ?_
  refine scR ?_
  refine sq_q (q_loadK rfl Tryd.isAgg30 Tryd.sizeOf30 (i := 1) (vs := [.int .i64 ((bv bs 4 : Nat) : Int), .int .i64 ((bv bs 5 : Nat) : Int), .int .i64 ((bv bs 6 : Nat) : Int), .int .i64 ((bv bs 7 : Nat) : Int), .int .i64 ((bv bs 8 : Nat) : Int), .int .i64 ((hd bs).type : Int), .int .i64 ((hd bs).machine : Int), .int .u64 ((hd bs).entry : Int), .slice none 0 0, .slice none 0 0, .slice none 0 0, .slice none 0 0]) rfl rfl) rfl ?_
  refine sq_m0 (m_stores (i := 0) (vs := [.int .i64 ((bv bs 4 : Nat) : Int), .int .i64 ((bv bs 5 : Nat) : Int), .int .i64 ((bv bs 6 : Nat) : Int), .int .i64 ((bv bs 7 : Nat) : Int), .int .i64 ((bv bs 8 : Nat) : Int), .int .i64 ((hd bs).type : Int), .int .i64 ((hd bs).machine : Int), .int .u64 ((hd bs).entry : Int), .slice none 0 0, .slice none 0 0, .slice none 0 0, .slice none 0 0]) (l' := [.int .i64 ((bv bs 4 : Nat) : Int), .int .i64 ((bv bs 5 : Nat) : Int), .int .i64 ((bv bs 6 : Nat) : Int), .int .i64 ((bv bs 7 : Nat) : Int), .int .i64 ((bv bs 8 : Nat) : Int), .int .i64 ((hd bs).type : Int), .int .i64 ((hd bs).machine : Int), .int .u64 ((hd bs).entry : Int), .slice none 0 0, .slice none 0 0, .slice none 0 0, .slice none 0 0]) rfl rfl Tryd.sizeOf30 rfl rfl rfl (by simp) rfl rfl (by intro h; omega)) (fun _ _ => ?_)
  iterate 2 refine sqA rfl rfl ?_
  refine sqK [2, 3, 4] rfl ?_
  refine sc_ret ?_
  refine se_then_ret ?_
  exact se_end (resc2 Tryd.results5 rfl rfl rfl Tryd.isAgg30 Tryd.sizeOf30 (i := 0) rfl rfl) (fun w' hw => .inr (.inl ⟨fun hh => absurd hh hbad, fun hg => hbad hg.head, ⟨_, rfl, rfl, rfl, hw.eff⟩⟩))
 have hbad : ¬ HeadOk bs := fun hh => by
  have h9 := hh.ph
  omega
 refine sq_gy rfl rfl rfl ?_
 refine sq_q (q_not' rfl) rfl ?_
 refine sqF rfl rfl rfl ?_
 refine sqM rfl rfl ?_
 iterate 3 refine sq_gn rfl rfl rfl rfl ?_
 refine sqT rfl rfl rfl ?_
 refine sqM rfl rfl ?_
 iterate 5 refine sq_gn rfl rfl rfl rfl ?_
 refine sqT rfl rfl rfl ?_
 refine sqM rfl rfl ?_
 iterate 3 refine sq_gn rfl rfl rfl rfl ?_
 iterate 3 refine sq_gu rfl rfl rfl ?_
 refine sq_gn rfl rfl rfl rfl ?_
 refine sqT rfl rfl rfl ?_
 refine sqM rfl rfl ?_
 iterate 3 refine sq_gn rfl rfl rfl rfl ?_
 iterate 4 refine sq_gu rfl rfl rfl ?_
 refine sq_gn rfl rfl rfl rfl ?_
 refine sqT rfl rfl rfl ?_
 refine sqM rfl rfl ?_
 iterate 3 refine sq_gn rfl rfl rfl rfl ?_
 iterate 4 refine sq_gu rfl rfl rfl ?_
 refine sq_gn rfl rfl rfl rfl ?_
 refine sqT rfl rfl rfl ?_
 refine sqK [0, 2, 5, 6, 11, 12, 13, 14, 15, 16, 17, 185] rfl ?_
 refine sc_cond_t rfl ?_
 refine scR ?_
 refine sq_q (q_loadK rfl Tryd.isAgg30 Tryd.sizeOf30 (i := 1) (vs := [.int .i64 ((bv bs 4 : Nat) : Int), .int .i64 ((bv bs 5 : Nat) : Int), .int .i64 ((bv bs 6 : Nat) : Int), .int .i64 ((bv bs 7 : Nat) : Int), .int .i64 ((bv bs 8 : Nat) : Int), .int .i64 ((hd bs).type : Int), .int .i64 ((hd bs).machine : Int), .int .u64 ((hd bs).entry : Int), .slice none 0 0, .slice none 0 0, .slice none 0 0, .slice none 0 0]) rfl rfl) rfl ?_
 refine sq_m0 (m_stores (i := 0) (vs := [.int .i64 ((bv bs 4 : Nat) : Int), .int .i64 ((bv bs 5 : Nat) : Int), .int .i64 ((bv bs 6 : Nat) : Int), .int .i64 ((bv bs 7 : Nat) : Int), .int .i64 ((bv bs 8 : Nat) : Int), .int .i64 ((hd bs).type : Int), .int .i64 ((hd bs).machine : Int), .int .u64 ((hd bs).entry : Int), .slice none 0 0, .slice none 0 0, .slice none 0 0, .slice none 0 0]) (l' := [.int .i64 ((bv bs 4 : Nat) : Int), .int .i64 ((bv bs 5 : Nat) : Int), .int .i64 ((bv bs 6 : Nat) : Int), .int .i64 ((bv bs 7 : Nat) : Int), .int .i64 ((bv bs 8 : Nat) : Int), .int .i64 ((hd bs).type : Int), .int .i64 ((hd bs).machine : Int), .int .u64 ((hd bs).entry : Int), .slice none 0 0, .slice none 0 0, .slice none 0 0, .slice none 0 0]) rfl rfl Tryd.sizeOf30 rfl rfl rfl (by simp) rfl rfl (by intro h; omega)) (fun _ _ => ?_)
 iterate 2 refine sqA rfl rfl ?_
 refine sqK [2, 3, 4] rfl ?_
 refine sc_ret ?_
 refine se_then_ret ?_
 exact se_end (resc2 Tryd.results5 rfl rfl rfl Tryd.isAgg30 Tryd.sizeOf30 (i := 0) rfl rfl) (fun w' hw => .inr (.inl ⟨fun hh => absurd hh hbad, fun hg => hbad hg.head, ⟨_, rfl, rfl, rfl, hw.eff⟩⟩))

/-- spec.Find. -/
theorem find5 {bs : List UInt8} {ab ao c : Nat} {l : List Value} {e : TypeId} {fr : Nat × Nat} {w : World} (gx : Gs bs ab ao c l e fr w) : Calls Tryd.prog 5 #[.slice (some ⟨ab, ao, none⟩) bs.length c] w (FindR bs [(ab, .cells l.toArray e fr)] w.heap.size w) := by
 by_cases h : bs.length < 16
 ·
  exact find_short h
 ·
  exact find_entry gx (find_fields gx (find_checks gx (find_loop gx))) (by omega)
end Go.Proofs.YtgkjnkhoopcjgaaDoor
/- Calls of Find, right and isFound, as steps of a walk. Conditions: the bytes and the library's errors lie in memory. -/
namespace Go.Proofs.YtgkjnkhoopcjgaaDoor
open Go.Sx
set_option maxRecDepth 100000
set_option maxHeartbeats 1000000

theorem ByIn.at_len {mm : MM} {v : Value} {xs : List UInt8} (h : ByIn mm v xs) : ∃ ad c, v = .slice ad xs.length c := by
 rcases h with ⟨rfl, ad, c, rfl⟩ | ⟨b, o, c, l, e, fr, rfl, _⟩
 ·
  exact ⟨_, _, rfl⟩
 ·
  exact ⟨_, _, rfl⟩
/-- spec.Find of any slice. -/
theorem find_any {bs : List UInt8} {v : Value} {am : MM} {w : World} (hlen : bs.length ≤ 8192) (hv : ByIn am v bs) (ham : Has am w) : Calls Tryd.prog 5 #[v] w (FindR bs am w.heap.size w) := by
 rcases hv with ⟨rfl, ad, c, rfl⟩ | ⟨b, o, c, l, e, fr, rfl, h1, h2, h3, h4, h5, _⟩
 ·
  exact find_short (bs := []) (by decide)
 ·
  refine (find5 (l := l) (e := e) (fr := fr) ⟨hlen, h1, h2, h4, h5, ham _ h3⟩).mono fun en w' h => ?_
  rcases h with h | h | ⟨q1, q2, q3, v1, v2, v3, v4, nn, q4, q5, ⟨vs, R, q6, q7, q8⟩, q9, ⟨us, S, r1, r2, r3⟩, r4⟩
  ·
   exact .inl h
  ·
   exact .inr (.inl h)
  ·
   have hs : List.Subset ([(b, .cells l.toArray e fr)] ++ nn) (am ++ nn) := fun p hp => by
    rcases List.mem_append.1 hp with hp | hp
    ·
     rw [List.mem_singleton.1 hp]; exact List.mem_append_left _ h3
    ·
     exact List.mem_append_right _ hp
   exact .inr (.inr ⟨q1, q2, q3, v1, v2, v3, v4, nn, q4, q5, ⟨vs, R, q6, q7, q8.mono hs⟩, q9, ⟨us, S, r1, r2, r3.mono hs⟩, r4⟩)
section
variable {g gu : Gx} {bs : List UInt8} {v : Value} {am mm : MM} {w0 : World} {E : Nat → Prop} {fm : FM} {N : Nat} {x : Operand} {ts : Array TypeId} {d : Option Nat} {ty : TypeId} {pos : String} {after : Array Edge} {gd : Option (Nat × Bool)}
/-- A call of Find. -/
theorem find_inv (hlen : bs.length ≤ 8192) (hv : ByIn am v bs) (ham : List.Subset am mm) (hx : fm.ev x = some v) :
  Main Tryd.prog w0 E fm N mm ⟨d, .call { callee := .value (.func 5), args := #[x], argTypes := ts }, ty, pos, after, gd⟩ (fun z : S14 => .tuple #[.agg z.xs.toArray, .bool z.is, .bool z.said]) (fun z => z.N) (fun z => z.nn ++ mm) (fun z => N ≤ z.N ∧ S14F bs am N z) := by
 refine m_call (args1 hx) Tryd.call5 fun w hw => (find_any hlen hv fun p hp => hw.has p (ham hp)).mono fun en w' h => ?_
 rcases h with ⟨xs, is, he, hl, ha, hf⟩ | ⟨hp, hg, xs, he, hl, ha, hf⟩ | ⟨hp, hg, hfi, v1, v2, v3, v4, nn, he, t1, t2, t3, t4, hm, hf, hn, hnd⟩
 ·
  exact ⟨⟨xs, is, false, w'.heap.size, []⟩, ⟨by rw [← hw.size]; exact hf.size, hl, ha, .inl ⟨rfl, rfl⟩⟩, he, hw.call_new hf [] (fun p hp => by cases hp) (fun p hp => by cases hp) List.nodup_nil⟩
 ·
  exact ⟨⟨xs, false, true, w'.heap.size, []⟩, ⟨by rw [← hw.size]; exact hf.size, hl, ha, .inr (.inl ⟨rfl, rfl, hp, hg, rfl⟩)⟩, he, hw.call_new hf [] (fun p hp => by cases hp) (fun p hp => by cases hp) List.nodup_nil⟩
 ·
  have hone : ([v1, v2, v3, v4] : List Value).all (·.oneCell') = true := by
   obtain ⟨_, r1, _⟩ := t1; obtain ⟨_, _, r2, _⟩ := t2; obtain ⟨_, r3, _⟩ := t3; obtain ⟨_, _, r4, _⟩ := t4
   simp [r1.one, r2.one, r3.one, r4.one]
  exact ⟨⟨hdrL bs ++ [v1, v2, v3, v4], true, true, w'.heap.size, nn⟩, ⟨by rw [← hw.size]; exact hf.size, rfl, by rw [List.all_append, hone]; rfl, .inr (.inr ⟨rfl, rfl, hp, hg, hfi, v1, v2, v3, v4, rfl, ⟨t1, t2, t3, t4⟩, fun p hp => by rw [← hw.size]; exact hm p hp, hnd⟩)⟩, he,
   hw.call_new hf nn hn (fun p hp => by rw [← hw.size]; exact hm p hp) hnd⟩
theorem right_inv (h1 : (1, g.o) ∈ mm) (h0 : (0, gu.o) ∈ mm) : Main Tryd.prog w0 E fm N mm ⟨d, .call { callee := .value (.func 7), args := #[], argTypes := ts }, ty, pos, after, gd⟩ (fun _ : Nat => .bool true) (fun n => n) (fun _ => mm) (fun n => N ≤ n) := by
 refine m_call (vs := #[]) (fun _ _ => by simp) Tryd.call7 fun w hw => (right7 (hw.has _ h1) (hw.has _ h0)).mono fun en w' ⟨h2, h3⟩ => ?_
 exact ⟨w'.heap.size, by rw [← hw.size]; exact h3.size, h2, hw.call_new h3 [] (fun p hp => by cases hp) (fun p hp => by cases hp) List.nodup_nil⟩
theorem found_inv {w1 w2 w3 w4 v1 v2 v3 v4 : Value} {x0 x1 x2 x3 x4 x5 : Operand} (ta : TellIn bs mm v1 v2 v3 v4) (tb : TellIn bs mm w1 w2 w3 w4) (e0 : fm.ev x0 = some (.agg (hdrL bs ++ [w1, w2, w3, w4]).toArray)) (e1 : fm.ev x1 = some (.agg (hdrL bs).toArray))
  (e2 : fm.ev x2 = some v1) (e3 : fm.ev x3 = some v2) (e4 : fm.ev x4 = some v3) (e5 : fm.ev x5 = some v4) :
  Main Tryd.prog w0 E fm N mm ⟨d, .call { callee := .value (.func 8), args := #[x0, x1, x2, x3, x4, x5], argTypes := ts }, ty, pos, after, gd⟩ (fun _ : Nat => .bool true) (fun n => n) (fun _ => mm) (fun n => N ≤ n) := by
 refine m_call (vs := #[_, _, _, _, _, _]) (fun ρ hρ => by simp [hρ _ _ e0, hρ _ _ e1, hρ _ _ e2, hρ _ _ e3, hρ _ _ e4, hρ _ _ e5]) Tryd.call8 fun w hw => (found8 ta tb hw.has hw.nd).mono fun en w' ⟨h2, h3⟩ => ?_
 exact ⟨w'.heap.size, by rw [← hw.size]; exact h3.size, h2, hw.call_new h3 [] (fun p hp => by cases hp) (fun p hp => by cases hp) List.nodup_nil⟩
end

end Go.Proofs.YtgkjnkhoopcjgaaDoor
/- Bytes behind a file: plain words over lists of bytes. Conditions: the file is good, its sections and programs are whole. -/
namespace Go.Proofs.YtgkjnkhoopcjgaaDoor
open Go.Sx

section
variable {b x : List UInt8}
theorem drop_take_app {o s : Nat} (h : o + s ≤ b.length) : ((b ++ x).drop o).take s = (b.drop o).take s := by
  rw [List.drop_append_of_le_length (by omega), List.take_append_of_le_length (by simp; omega)]
theorem fld_app {big : Bool} {o s : Nat} (h : o + s ≤ b.length) : fld big (b ++ x) o s = fld big b o s := by
  unfold fld; rw [drop_take_app h]
theorem bv_app {k : Nat} (h : k < b.length) : bv (b ++ x) k = bv b k := by
  simp only [bv, List.getD_eq_getElem?_getD, List.getElem?_append_left h]
theorem cut_app {a n : Nat} (h : CutOk b a n) : cut (b ++ x) a n = cut b a n := by
  unfold cut
  rcases h with rfl | h
  · simp
  · exact drop_take_app h
theorem cutOk_app {a n : Nat} (h : CutOk b a n) : CutOk (b ++ x) a n := by
  rcases h with h | h
  · exact .inl h
  · exact .inr (by rw [List.length_append]; omega)
theorem wide_app (h : 16 ≤ b.length) : isWide (b ++ x) = isWide b := by unfold isWide; rw [bv_app (by omega)]
theorem big_app (h : 16 ≤ b.length) : isBig (b ++ x) = isBig b := by unfold isBig; rw [bv_app (by omega)]
theorem hd_app (h : HeadOk b) : hd (b ++ x) = hd b := by
  have h1 := h.len
  have h2 := h.size
  unfold hd
  rw [wide_app h1, big_app h1]
  cases hw : isWide b <;> rw [hw] at h2 <;> simp only [wd, Bool.false_eq_true, if_false, if_true] at h2 ⊢ <;>
    rw [fld_app (by omega), fld_app (by omega), fld_app (by omega), fld_app (by omega), fld_app (by omega), fld_app (by omega), fld_app (by omega), fld_app (by omega), fld_app (by omega), fld_app (by omega), fld_app (by omega)]
theorem prowAt_app {big wide : Bool} {a : Nat} (h : a + wd wide 32 56 ≤ b.length) : prowAt big wide (b ++ x) a = prowAt big wide b a := by
  cases wide <;> simp only [wd, Bool.false_eq_true, if_false, if_true] at h <;> simp only [prowAt, Bool.false_eq_true, if_false, if_true] <;>
    rw [fld_app (by omega), fld_app (by omega), fld_app (by omega), fld_app (by omega), fld_app (by omega), fld_app (by omega), fld_app (by omega), fld_app (by omega)]
theorem srowAt_app {big wide : Bool} {a : Nat} (h : a + wd wide 40 64 ≤ b.length) : srowAt big wide (b ++ x) a = srowAt big wide b a := by
  cases wide <;> simp only [wd, Bool.false_eq_true, if_false, if_true] at h <;> simp only [srowAt, Bool.false_eq_true, if_false, if_true] <;>
    rw [fld_app (by omega), fld_app (by omega), fld_app (by omega), fld_app (by omega), fld_app (by omega), fld_app (by omega), fld_app (by omega), fld_app (by omega), fld_app (by omega), fld_app (by omega)]
theorem row_in {off n e i k : Nat} (h : CutOk b off (n * e)) (hi : i < n) (he : k ≤ e) (hk : 0 < k) : off + i * e + k ≤ b.length := by
  have h1 : i * e + e ≤ n * e := by rw [← Nat.succ_mul]; exact Nat.mul_le_mul_right _ hi
  rcases h with h | h <;> omega
theorem prow_app (g : Good b) {i : Nat} (hi : i < (hd b).phnum) : prow (b ++ x) i = prow b i := by
  unfold prow
  rw [hd_app g.head, wide_app g.head.len, big_app g.head.len]
  exact prowAt_app (row_in g.pcut hi (g.head.phe (by omega)) (by cases isWide b <;> decide))
theorem srow_app (g : Good b) {i : Nat} (hi : i < (hd b).shnum) : srow (b ++ x) i = srow b i := by
  unfold srow
  rw [hd_app g.head, wide_app g.head.len, big_app g.head.len]
  exact srowAt_app (row_in g.scut hi (g.head.she (by omega)) (by cases isWide b <;> decide))
theorem named_app (g : Good b) : named (b ++ x) = named b := by unfold named; rw [hd_app g.head]
theorem texts_app (g : Good b) (h : named b = true) : texts (b ++ x) = texts b := by
  have hn : 0 < (hd b).shnum := by simp only [named, Bool.and_eq_true, decide_eq_true_eq] at h; exact h.1
  unfold texts
  rw [hd_app g.head, srow_app g (g.head.nm hn)]
  exact cut_app (g.st h).2.1
theorem nameAt_app (g : Good b) (h : named b = true) {i : Nat} (hi : i < (hd b).shnum) : nameAt (b ++ x) i = nameAt b i := by
  unfold nameAt; rw [texts_app g h, srow_app g hi]
theorem nameOf_app (g : Good b) {i : Nat} (hi : i < (hd b).shnum) : nameOf (b ++ x) i = nameOf b i := by
  unfold nameOf
  rw [named_app g]
  by_cases h : named b = true
  · rw [if_pos h, if_pos h, nameAt_app g h hi]
  · rw [if_neg h, if_neg h]
theorem headOk_app (h : HeadOk b) : HeadOk (b ++ x) := by
  have h1 := h.len
  have hl : (b ++ x).length = b.length + x.length := List.length_append
  refine ⟨by omega, ?_, ?_, ?_, ?_, ?_, ?_, ?_, ?_, ?_, ?_, ?_, ?_, ?_, ?_, ?_⟩
  · rw [bv_app (by omega)]; exact h.m0
  · rw [bv_app (by omega)]; exact h.m1
  · rw [bv_app (by omega)]; exact h.m2
  · rw [bv_app (by omega)]; exact h.m3
  · rw [bv_app (by omega)]; exact h.cls
  · rw [bv_app (by omega)]; exact h.dat
  · rw [bv_app (by omega)]; exact h.ver
  · rw [wide_app h1]; have := h.size; omega
  · rw [hd_app h]; exact h.ver4
  · rw [hd_app h]; exact h.ph
  · rw [hd_app h]; exact h.sh
  · rw [hd_app h]; exact h.zero
  · rw [hd_app h]; exact h.nm
  · rw [hd_app h, wide_app h1]; exact h.phe
  · rw [hd_app h, wide_app h1]; exact h.she
theorem good_app (g : Good b) : Good (b ++ x) := by
  refine ⟨headOk_app g.head, ?_, ?_, ?_, ?_, ?_⟩
  · rw [hd_app g.head]; exact cutOk_app g.pcut
  · intro i hi; rw [hd_app g.head] at hi; rw [prow_app g hi]; exact g.ps i hi
  · rw [hd_app g.head]; exact cutOk_app g.scut
  · intro i hi; rw [hd_app g.head] at hi; rw [srow_app g hi]; exact g.ss i hi
  · intro h
    rw [named_app g] at h
    have hn : 0 < (hd b).shnum := by simp only [named, Bool.and_eq_true, decide_eq_true_eq] at h; exact h.1
    obtain ⟨h1, h2, h3⟩ := g.st h
    rw [hd_app g.head, srow_app g (g.head.nm hn)]
    exact ⟨h1, cutOk_app h2, fun i hi => by rw [nameAt_app g h hi]; exact h3 i hi⟩
theorem plain_app (g : Good b) (p : Plain b) : Plain (b ++ x) := plain_all fun i hi => by
  rw [hd_app g.head] at hi
  rw [srow_app g hi]
  exact p g.head g.pcut g.ps g.scut i hi fun j hj => g.ss j (by omega)
theorem fits_app (g : Good b) (f : Fits b) : Fits (b ++ x) := ⟨fun i hi => by
    rw [hd_app g.head] at hi
    rw [nameOf_app g hi]; exact f.nz i hi, fun i hi => by
    rw [hd_app g.head] at hi
    rw [prow_app g hi]; exact f.fs i hi⟩
/-- The sections and the programs are whole. -/
structure Whole (b : List UInt8) : Prop where
  parts : ∀ i, i < (hd b).shnum → (srow b i).type = 8 ∨ (partOf b i).length = (srow b i).size
  bodies : ∀ i, i < (hd b).phnum → (bodyOf b i).length = (prow b i).filesz
theorem cut_whole {a n : Nat} (h : (cut b a n).length = n) : CutOk b a n := by
  unfold cut at h
  simp only [List.length_take, List.length_drop] at h
  unfold CutOk; omega
theorem partOf_app (g : Good b) (h : Whole b) {i : Nat} (hi : i < (hd b).shnum) : partOf (b ++ x) i = partOf b i := by
  have hs : secC (b ++ x) i = secC b i := by
    unfold secC
    rw [srow_app g hi]
    by_cases h8 : (srow b i).type = 8
    · rw [if_pos h8, if_pos h8]
    · rw [if_neg h8, if_neg h8]
      refine cut_app ?_
      have h1 := (h.parts i hi).resolve_left h8
      unfold partOf at h1
      split at h1
      · rw [secC, if_neg h8] at h1; exact cut_whole h1
      · exact .inl h1.symm
  unfold partOf
  rw [hs, srow_app g hi]
theorem bodyOf_app (g : Good b) (h : Whole b) {i : Nat} (hi : i < (hd b).phnum) : bodyOf (b ++ x) i = bodyOf b i := by
  have h1 := h.bodies i hi
  unfold bodyOf at h1 ⊢
  rw [prow_app g hi]
  exact cut_app (cut_whole h1)
theorem hdrL_app (g : Good b) : hdrL (b ++ x) = hdrL b := by
  have h1 := g.head.len
  unfold hdrL
  rw [hd_app g.head, bv_app (by omega), bv_app (by omega), bv_app (by omega), bv_app (by omega), bv_app (by omega)]
theorem secsL_app (g : Good b) : ∀ n, n ≤ (hd b).shnum → secsL (b ++ x) (nameOf (b ++ x)) n = secsL b (nameOf b) n
  | 0, _ => rfl
  | n + 1, h => by rw [secsL, secsL, secsL_app g n (by omega), nameOf_app g (by omega), srow_app g (by omega)]
theorem prgsL_app (g : Good b) : ∀ n, n ≤ (hd b).phnum → prgsL (b ++ x) n = prgsL b n
  | 0, _ => rfl
  | n + 1, h => by rw [prgsL, prgsL, prgsL_app g n (by omega), prow_app g (by omega)]
theorem Bss.congr {M : MM} {vs : List Value} {f g : Nat → List UInt8} {n : Nat} (h : Bss M vs f) (hn : vs.length = n) (he : ∀ i, i < n → f i = g i) : Bss M vs g := fun i v hv => by
  have hi : i < vs.length := (List.getElem?_eq_some_iff.1 hv).1
  rw [← he i (by omega)]; exact h i v hv
/-- What is told of the longer bytes is told of the file. -/
theorem tellIn_app {M : MM} {v1 v2 v3 v4 : Value} (g : Good b) (h : Whole b) (t : TellIn (b ++ x) M v1 v2 v3 v4) : TellIn b M v1 v2 v3 v4 := by
  obtain ⟨⟨m1, R1, h1, h2⟩, ⟨m2, vs, R2, h3, h4, h5⟩, ⟨m3, R3, h6, h7⟩, ⟨m4, us, R4, h8, h9, h10⟩⟩ := t
  rw [hd_app g.head] at h1 h3 h6 h8
  rw [secsL_app g _ (Nat.le_refl _)] at h1
  rw [prgsL_app g _ (Nat.le_refl _)] at h6
  exact ⟨⟨m1, R1, h1, h2⟩, ⟨m2, vs, R2, h3, h4, h5.congr (n := (hd b).shnum) (by have := h3.1; omega) fun i hi => partOf_app g h hi⟩, ⟨m3, R3, h6, h7⟩, ⟨m4, us, R4, h8, h9, h10.congr (n := (hd b).phnum) (by have := h8.1; omega) fun i hi => bodyOf_app g h hi⟩⟩
end
end Go.Proofs.YtgkjnkhoopcjgaaDoor
/- laws.FnBehind: it returns true. Conditions: both rows of bytes and the library's errors lie in memory. -/
namespace Go.Proofs.YtgkjnkhoopcjgaaDoor
open Go.Sx
set_option maxRecDepth 100000
set_option maxHeartbeats 4000000

theorem partOf_le {b : List UInt8} {i : Nat} : (partOf b i).length ≤ b.length := by
 unfold partOf
 split
 ·
  unfold secC cut
  split <;> simp <;> omega
 ·
  simp
theorem bodyOf_le {b : List UInt8} {i : Nat} : (bodyOf b i).length ≤ b.length := by
 unfold bodyOf cut
 simp; omega
theorem src_by {P : Program} {w0 : World} {E : Nat → Prop} {N : Nat} {mm : MM} {w : World} {tx e' : TypeId} {v : Value} {xs : List UInt8} (hw : Mem w0 E N mm w) (hk : P.underlying tx = some (.slice e')) (hv : ByIn mm v xs) : Src P 1 tx v xs.length (xs.map u8v) w := by
 rcases hv with ⟨rfl, ad, c, rfl⟩ | ⟨b, o, c, l, e, fr, rfl, h1, h2, h3, h4, h5, h6⟩
 ·
  cases ad with
  | none => exact Src.ofNil w hk c
  | some a => exact Src.ofSlice w hk a 0 c [] rfl (fun j u hj => by simp at hj) (fun u hu => by cases hu)
 ·
  obtain ⟨j, hj⟩ := List.getElem?_of_mem h3
  exact src_at hw hk hj (by rw [Nat.mul_one]; exact h4) (by omega) (one_bytes _)

theorem ByIn.tl {mm : MM} {p : Nat × Obj} {v : Value} {xs : List UInt8} (h : ByIn mm v xs) : ByIn (p :: mm) v xs := h.mono fun _ hp => List.mem_cons_of_mem _ hp

theorem behind4 {g gu : Gx} {bs ys : List UInt8} {v vy : Value} {am : MM} {w : World} (hv : ByIn am v bs) (hv2 : ByIn am vy ys) (ham : Has am w) (hnd : (am.map Prod.fst).Nodup) (hne : ∀ p ∈ am, p.1 ≠ 1 ∧ p.1 ≠ 0) (h1 : w.heap[1]? = some g.o) (h0 : w.heap[0]? = some gu.o) :
  Calls Tryd.prog 4 #[v, vy] w fun en w' => en = .returned (.bool true) ∧ Eff E0 w w' := by
 have hM : Has ((1, g.o) :: (0, gu.o) :: am) w := fun p hp => by
  rcases List.mem_cons.1 hp with rfl | hp
  ·
   exact h1
  ·
   rcases List.mem_cons.1 hp with rfl | hp
   ·
    exact h0
   ·
    exact ham p hp
 have hMn : (((1, g.o) :: (0, gu.o) :: am).map Prod.fst).Nodup := by
  simp only [List.map_cons, List.nodup_cons, List.mem_cons, List.mem_map, not_or]
  exact ⟨⟨by decide, fun ⟨p, hp, he⟩ => (hne p hp).1 he⟩, fun ⟨p, hp, he⟩ => (hne p hp).2 he, hnd⟩
 have hsz : 1 < w.heap.size := (Array.getElem?_eq_some_iff.1 h1).1
 obtain ⟨hl1, hl2, hl3, hl4, hl5, hl6, hl7, hl8, hl9, hl10, hl11⟩ := hd_lt bs
 obtain ⟨ad, c, hvs⟩ := hv.at_len
 subst hvs
 obtain ⟨ad2, cy, hvs⟩ := hv2.at_len
 subst hvs
 refine enter (E := E0) Tryd.func4 rfl Tryd.ntmps4 (Nat.le_of_ble_eq_true rfl) [(0, _), (1, _)] (AOk.get («as» := [_, _]) ⟨rfl, rfl, trivial⟩) ((1, g.o) :: (0, gu.o) :: am) hM hMn ?_
 refine scR ?_
 refine sqA rfl rfl ?_
 refine sqK [0, 1] rfl ?_
 refine sc_seq ?_
 refine scR ?_
 refine sqM rfl rfl ?_
 refine sq_q (q_len rfl Tryd.runUnderlying22) rfl ?_
 refine sq_split (q_gtr rfl rfl) rfl (fun h1_2 => ?_) (fun h1_2 => ?_)
 ·
  have _tok := trivial
  refine sqM rfl rfl ?_
  iterate 3 refine sq_gn rfl rfl rfl rfl ?_
  refine sqT rfl rfl rfl ?_
  refine sqK [0, 1, 25] rfl ?_
  refine sc_cond_t rfl ?_
  refine scR ?_
  refine sqA rfl rfl ?_
  refine sqK [4] rfl ?_
  refine sc_ret ?_
  refine se_then_ret ?_
  exact se_end (res1 Tryd.results4 rfl) (fun w' hw => ⟨rfl, hw.eff⟩)
 refine sqM rfl rfl ?_
 refine sq_gy rfl rfl rfl ?_
 refine sqM rfl rfl ?_
 refine sq_gy rfl rfl rfl ?_
 refine sq_q (q_len rfl Tryd.runUnderlying22) rfl ?_
 refine sq_gy rfl rfl rfl ?_
 refine sq_split (q_gtr rfl rfl) rfl (fun h1_6 => ?_) (fun h1_6 => ?_)
 ·
  have _tok := trivial
  refine sqF rfl rfl rfl ?_
  refine sqK [0, 1, 25] rfl ?_
  refine sc_cond_t rfl ?_
  refine scR ?_
  refine sqA rfl rfl ?_
  refine sqK [4] rfl ?_
  refine sc_ret ?_
  refine se_then_ret ?_
  exact se_end (res1 Tryd.results4 rfl) (fun w' hw => ⟨rfl, hw.eff⟩)
 refine sqF rfl rfl rfl ?_
 refine sqK [0, 1, 25] rfl ?_
 refine sc_cond_f rfl ?_
 refine scS ?_
 refine scK [0, 1] rfl ?_
 refine sc_seq ?_
 refine scR ?_
 refine sqM rfl rfl ?_
 refine sq_q (q_len rfl Tryd.runUnderlying22) rfl ?_
 refine sq_split (q_gtr rfl rfl) rfl (fun h3_2 => ?_) (fun h3_2 => ?_)
 ·
  have _tok := trivial
  refine sqM rfl rfl ?_
  iterate 3 refine sq_gn rfl rfl rfl rfl ?_
  refine sqT rfl rfl rfl ?_
  refine sqK [0, 1, 33] rfl ?_
  refine sc_cond_t rfl ?_
  refine scR ?_
  refine sqA rfl rfl ?_
  refine sqK [4] rfl ?_
  refine sc_ret ?_
  refine se_then_ret ?_
  exact se_end (res1 Tryd.results4 rfl) (fun w' hw => ⟨rfl, hw.eff⟩)
 refine sqM rfl rfl ?_
 refine sq_gy rfl rfl rfl ?_
 refine sqM rfl rfl ?_
 refine sq_gy rfl rfl rfl ?_
 refine sq_q (q_len rfl Tryd.runUnderlying22) rfl ?_
 refine sq_gy rfl rfl rfl ?_
 refine sq_split (q_gtr rfl rfl) rfl (fun h3_6 => ?_) (fun h3_6 => ?_)
 ·
  have _tok := trivial
  refine sqF rfl rfl rfl ?_
  refine sqK [0, 1, 33] rfl ?_
  refine sc_cond_t rfl ?_
  refine scR ?_
  refine sqA rfl rfl ?_
  refine sqK [4] rfl ?_
  refine sc_ret ?_
  refine se_then_ret ?_
  exact se_end (res1 Tryd.results4 rfl) (fun w' hw => ⟨rfl, hw.eff⟩)
 refine sqF rfl rfl rfl ?_
 refine sqK [0, 1, 33] rfl ?_
 refine sc_cond_f rfl ?_
 refine scS ?_
 refine scK [0, 1] rfl ?_
 refine scR ?_
 refine sqM rfl rfl ?_
 refine sq_m (find_inv (bs := bs) (am := am) (by omega) hv (fun p hp => by simp [hp]) rfl) rfl (fun z hz => ?_)
 obtain ⟨xs, is, said, Nf, nf⟩ := z
 obtain ⟨hN, hx12, hall, ⟨hsd, hnf⟩ | ⟨hsd, his, hpl, hbad, hnf⟩ | ⟨hsd, his, hpl, hgood, hfit, w1, w2, w3, w4, hxs, htf, hge, -⟩⟩ := hz <;> dsimp only at hN hx12 hall hsd
 ·
  subst hsd
  refine sqM rfl rfl ?_
  iterate 3 refine sq_q (q_extract rfl rfl) rfl ?_
  refine sq_m (m_alloc (l := [.int .i64 0, .int .i64 0, .int .i64 0, .int .i64 0, .int .i64 0, .int .i64 0, .int .i64 0, .int .u64 0, .slice none 0 0, .slice none 0 0, .slice none 0 0, .slice none 0 0]) Tryd.zeroValue30 rfl) rfl (fun _ _ => ?_)
  refine sq_m0 (m_stores (i := 0) (vs := xs) (l' := xs) rfl rfl Tryd.sizeOf30 hx12 hall rfl (by simp) (by show [] ++ xs ++ [] = xs; rw [List.append_nil]; rfl) rfl (by intro h; dsimp only at hN h; omega)) (fun _ _ => ?_)
  iterate 2 refine sqA rfl rfl ?_
  refine sqK [0, 1, 5, 6, 7] rfl ?_
  refine sc_seq ?_
  refine scR ?_
  refine sqM rfl rfl ?_
  refine sq_q (q_not' rfl) rfl ?_
  refine sqM rfl rfl ?_
  iterate 2 refine sq_gn rfl rfl rfl rfl ?_
  refine sqT rfl rfl rfl ?_
  refine sqK [0, 1, 5, 45] rfl ?_
  refine sc_cond_t rfl ?_
  refine scR ?_
  refine sqA rfl rfl ?_
  refine sqK [4] rfl ?_
  refine sc_ret ?_
  refine se_then_ret ?_
  exact se_end (res1 Tryd.results4 rfl) (fun w' hw => ⟨rfl, hw.eff⟩)
 ·
  dsimp only at his
  subst hsd his
  refine sqM rfl rfl ?_
  iterate 3 refine sq_q (q_extract rfl rfl) rfl ?_
  refine sq_m (m_alloc (l := [.int .i64 0, .int .i64 0, .int .i64 0, .int .i64 0, .int .i64 0, .int .i64 0, .int .i64 0, .int .u64 0, .slice none 0 0, .slice none 0 0, .slice none 0 0, .slice none 0 0]) Tryd.zeroValue30 rfl) rfl (fun _ _ => ?_)
  refine sq_m0 (m_stores (i := 0) (vs := xs) (l' := xs) rfl rfl Tryd.sizeOf30 hx12 hall rfl (by simp) (by show [] ++ xs ++ [] = xs; rw [List.append_nil]; rfl) rfl (by intro h; dsimp only at hN h; omega)) (fun _ _ => ?_)
  iterate 2 refine sqA rfl rfl ?_
  refine sqK [0, 1, 5, 6, 7] rfl ?_
  refine sc_seq ?_
  refine scR ?_
  refine sqM rfl rfl ?_
  refine sq_q (q_not' rfl) rfl ?_
  refine sqM rfl rfl ?_
  refine sq_gy rfl rfl rfl ?_
  refine sqM rfl rfl ?_
  refine sq_gy rfl rfl rfl ?_
  refine sq_q (q_not' rfl) rfl ?_
  refine sqF rfl rfl rfl ?_
  refine sqK [0, 1, 5, 45] rfl ?_
  refine sc_cond_t rfl ?_
  refine scR ?_
  refine sqA rfl rfl ?_
  refine sqK [4] rfl ?_
  refine sc_ret ?_
  refine se_then_ret ?_
  exact se_end (res1 Tryd.results4 rfl) (fun w' hw => ⟨rfl, hw.eff⟩)
 dsimp only at his hxs hge
 subst hsd his hxs
 have hbl := hgood.head.len
 have htf2 := htf
 obtain ⟨⟨R1, sa1, sR1⟩, ⟨ps2, R2, sa2, sR2, sf⟩, ⟨R3, pa1, pR1⟩, ⟨ps4, R4, pa2, pR2, pf⟩⟩ := htf2
 obtain ⟨a1, c1, rfl⟩ := sa1.len
 obtain ⟨a2, c2, rfl⟩ := sa2.len
 obtain ⟨a3, c3, rfl⟩ := pa1.len
 obtain ⟨a4, c4, rfl⟩ := pa2.len
 have hnf : ∀ p ∈ nf, p ∈ ((Nf, Obj.cells (hdrL bs ++ [Value.slice a1 (hd bs).shnum c1, Value.slice a2 (hd bs).shnum c2, Value.slice a3 (hd bs).phnum c3, Value.slice a4 (hd bs).phnum c4]).toArray 30 (0, 0)) :: (nf ++ ((1, g.o) :: (0, gu.o) :: am))) := fun p hp => by simp [hp]
 have sah1 : ∀ p ∈ R1, p ∈ ((Nf, Obj.cells (hdrL bs ++ [Value.slice a1 (hd bs).shnum c1, Value.slice a2 (hd bs).shnum c2, Value.slice a3 (hd bs).phnum c3, Value.slice a4 (hd bs).phnum c4]).toArray 30 (0, 0)) :: (nf ++ ((1, g.o) :: (0, gu.o) :: am))) := fun p hp => hnf p (sR1 p hp)
 have sah2 : ∀ p ∈ R2, p ∈ ((Nf, Obj.cells (hdrL bs ++ [Value.slice a1 (hd bs).shnum c1, Value.slice a2 (hd bs).shnum c2, Value.slice a3 (hd bs).phnum c3, Value.slice a4 (hd bs).phnum c4]).toArray 30 (0, 0)) :: (nf ++ ((1, g.o) :: (0, gu.o) :: am))) := fun p hp => hnf p (sR2 p hp)
 have pah1 : ∀ p ∈ R3, p ∈ ((Nf, Obj.cells (hdrL bs ++ [Value.slice a1 (hd bs).shnum c1, Value.slice a2 (hd bs).shnum c2, Value.slice a3 (hd bs).phnum c3, Value.slice a4 (hd bs).phnum c4]).toArray 30 (0, 0)) :: (nf ++ ((1, g.o) :: (0, gu.o) :: am))) := fun p hp => hnf p (pR1 p hp)
 have pah2 : ∀ p ∈ R4, p ∈ ((Nf, Obj.cells (hdrL bs ++ [Value.slice a1 (hd bs).shnum c1, Value.slice a2 (hd bs).shnum c2, Value.slice a3 (hd bs).phnum c3, Value.slice a4 (hd bs).phnum c4]).toArray 30 (0, 0)) :: (nf ++ ((1, g.o) :: (0, gu.o) :: am))) := fun p hp => hnf p (pR2 p hp)
 have hsubm : List.Subset (am ++ nf) ((Nf, Obj.cells (hdrL bs ++ [Value.slice a1 (hd bs).shnum c1, Value.slice a2 (hd bs).shnum c2, Value.slice a3 (hd bs).phnum c3, Value.slice a4 (hd bs).phnum c4]).toArray 30 (0, 0)) :: (nf ++ ((1, g.o) :: (0, gu.o) :: am))) := fun p hp => by
  rcases List.mem_append.1 hp with hp | hp <;> simp [hp]
 have saf := sf.mono hsubm
 have paf := pf.mono hsubm
 refine sqM rfl rfl ?_
 iterate 3 refine sq_q (q_extract rfl rfl) rfl ?_
 refine sq_m (m_alloc (l := [.int .i64 0, .int .i64 0, .int .i64 0, .int .i64 0, .int .i64 0, .int .i64 0, .int .i64 0, .int .u64 0, .slice none 0 0, .slice none 0 0, .slice none 0 0, .slice none 0 0]) Tryd.zeroValue30 rfl) rfl (fun _ _ => ?_)
 refine sq_m0 (m_stores (i := 0) (vs := (hdrL bs ++ [Value.slice a1 (hd bs).shnum c1, Value.slice a2 (hd bs).shnum c2, Value.slice a3 (hd bs).phnum c3, Value.slice a4 (hd bs).phnum c4])) (l' := (hdrL bs ++ [Value.slice a1 (hd bs).shnum c1, Value.slice a2 (hd bs).shnum c2, Value.slice a3 (hd bs).phnum c3, Value.slice a4 (hd bs).phnum c4])) rfl rfl Tryd.sizeOf30 hx12 hall rfl (by simp) (by show [] ++ (hdrL bs ++ [Value.slice a1 (hd bs).shnum c1, Value.slice a2 (hd bs).shnum c2, Value.slice a3 (hd bs).phnum c3, Value.slice a4 (hd bs).phnum c4]) ++ [] = (hdrL bs ++ [Value.slice a1 (hd bs).shnum c1, Value.slice a2 (hd bs).shnum c2, Value.slice a3 (hd bs).phnum c3, Value.slice a4 (hd bs).phnum c4]); rw [List.append_nil]; rfl) rfl (by intro h; dsimp only at hN h; omega)) (fun _ _ => ?_)
 iterate 2 refine sqA rfl rfl ?_
 refine sqK [0, 1, 5, 6, 7] rfl ?_
 refine sc_seq ?_
 refine scR ?_
 refine sqM rfl rfl ?_
 refine sq_q (q_not' rfl) rfl ?_
 refine sqM rfl rfl ?_
 refine sq_gy rfl rfl rfl ?_
 refine sqM rfl rfl ?_
 refine sq_gy rfl rfl rfl ?_
 refine sq_q (q_not' rfl) rfl ?_
 refine sqF rfl rfl rfl ?_
 refine sqK [0, 1, 5, 45] rfl ?_
 refine sc_cond_f rfl ?_
 refine scS ?_
 refine scK [0, 1, 5] rfl ?_
 iterate 2 refine sc_seq ?_
 refine sc_mem (ms := ((Nf, Obj.cells (hdrL bs ++ [Value.slice a1 (hd bs).shnum c1, Value.slice a2 (hd bs).shnum c2, Value.slice a3 (hd bs).phnum c3, Value.slice a4 (hd bs).phnum c4]).toArray 30 (0, 0)) :: (nf ++ ((1, g.o) :: (0, gu.o) :: am)))) (fun w1 h1 => h1) ?_
 refine sc_region ?_
 refine sq_q (q_fieldj (j := 8) rfl Tryd.runUnderlying30 rfl Tryd.sizeOf26 rfl) rfl ?_
 refine sq_q (q_load1 rfl Tryd.isAgg26 (i := 0) rfl rfl) rfl ?_
 refine sq_q (q_len rfl Tryd.runUnderlying26) rfl ?_
 refine sqM rfl rfl ?_
 refine sqK [0, 1, 5, 47, 48, 49] rfl ?_
 refine sc_block ?_
 refine sc_loop (ι := Nat × Nat) (fun z => [(0, .slice ad bs.length c), (1, .slice ad2 ys.length cy), (5, .pointer (some ⟨Nf, 0, none⟩)), (47, .slice a1 (hd bs).shnum c1), (48, .int .i64 ((hd bs).shnum : Int)), (49, .int .i64 (z.1 : Int))]) (fun z => z.2) (fun _ => ((Nf, Obj.cells (hdrL bs ++ [Value.slice a1 (hd bs).shnum c1, Value.slice a2 (hd bs).shnum c2, Value.slice a3 (hd bs).phnum c3, Value.slice a4 (hd bs).phnum c4]).toArray 30 (0, 0)) :: (nf ++ ((1, g.o) :: (0, gu.o) :: am)))) (fun z => z.1 ≤ (hd bs).shnum ∧ w.heap.size ≤ z.2 ∧ ∀ j, j < z.1 → (srow bs j).type = 8 ∨ (partOf bs j).length = (srow bs j).size) (fun z => (hd bs).shnum - z.1) (0, Nf + 1) ⟨⟨Nat.zero_le _, by dsimp only at *; omega, fun j hj => absurd hj (Nat.not_lt_zero _)⟩, ⟨rfl, rfl, rfl, rfl, rfl, rfl, trivial⟩, rfl, fun _ h => h⟩ ?_
 rintro ⟨i, Ni⟩ ⟨hi, hNi, hinv⟩
 dsimp only at hi hNi hinv
 change Sc _ _ _ _ _ _ [(0, .slice ad bs.length c), (1, .slice ad2 ys.length cy), (5, .pointer (some ⟨Nf, 0, none⟩)), (47, .slice a1 (hd bs).shnum c1), (48, .int .i64 ((hd bs).shnum : Int)), (49, .int .i64 (i : Int))] Ni ((Nf, Obj.cells (hdrL bs ++ [Value.slice a1 (hd bs).shnum c1, Value.slice a2 (hd bs).shnum c2, Value.slice a3 (hd bs).phnum c3, Value.slice a4 (hd bs).phnum c4]).toArray 30 (0, 0)) :: (nf ++ ((1, g.o) :: (0, gu.o) :: am)))
 refine scR ?_
 refine sq_split (q_lss rfl rfl) rfl (fun h9_0 => ?_) (fun h9_0 => ?_)
 ·
  have hin : i < (hd bs).shnum := by omega
  obtain ⟨b1, cap1, pad1, j1, hv1, hj1⟩ := sa1.blk (M := ((Nf, Obj.cells (hdrL bs ++ [Value.slice a1 (hd bs).shnum c1, Value.slice a2 (hd bs).shnum c2, Value.slice a3 (hd bs).phnum c3, Value.slice a4 (hd bs).phnum c4]).toArray 30 (0, 0)) :: (nf ++ ((1, g.o) :: (0, gu.o) :: am)))) (by omega) sah1
  obtain ⟨b2, cap2, pad2, j2, hv3, hj2⟩ := sa2.blk (M := ((Nf, Obj.cells (hdrL bs ++ [Value.slice a1 (hd bs).shnum c1, Value.slice a2 (hd bs).shnum c2, Value.slice a3 (hd bs).phnum c3, Value.slice a4 (hd bs).phnum c4]).toArray 30 (0, 0)) :: (nf ++ ((1, g.o) :: (0, gu.o) :: am)))) (by omega) sah2
  obtain ⟨rfl, -, rfl⟩ := Value.slice.inj hv1
  obtain ⟨rfl, -, rfl⟩ := Value.slice.inj hv3
  obtain ⟨u2, hu2, hp2⟩ := cell1 (pad := pad2) sa2.1 hin
  have hy2 := saf i u2 hu2
  obtain ⟨q1, q2, q3, q4, q5, q6, q7, q8, q9, q10⟩ := (srowAt_lt _ _ _ _ : (srow bs i).Lt)
  have hpl9 := partOf_le (b := bs) (i := i)
  refine sqZ ?_
  refine sc_seq ?_
  refine sc_cond_t rfl ?_
  refine scS ?_
  refine scK [0, 1, 5, 47, 48, 49] rfl ?_
  refine sc_seq ?_
  refine sc_block ?_
  refine scR ?_
  refine sqM rfl rfl ?_
  refine sq_q (q_index (j := i * 11) rfl rfl Tryd.runUnderlying26 Tryd.sizeOf39 ⟨by omega, by omega⟩ (by rw [Int.toNat_natCast]; omega)) rfl ?_
  refine sq_q (q_loadM rfl Tryd.isAgg39 Tryd.sizeOf39 (i := j1) hj1 (by rw [List.length_append, secsL_length]; omega) (sec_at hin)) rfl ?_
  refine sq_m (m_alloc (l := [.string ⟨#[]⟩, .int .i64 0, .int .i64 0, .int .u64 0, .int .u64 0, .int .u64 0, .int .i64 0, .int .i64 0, .int .u64 0, .int .u64 0, .int .u64 0]) Tryd.zeroValue39 rfl) rfl (fun _ _ => ?_)
  refine sqA rfl rfl ?_
  refine sq_m0 (m_stores (i := 0) (vs := secV (nameOf bs i) (srow bs i)) (l' := secV (nameOf bs i) (srow bs i)) rfl rfl Tryd.sizeOf39 rfl rfl rfl (by simp) rfl rfl (by intro h; omega)) (fun _ _ => ?_)
  have h3 : (srow bs i).type = 8 ∨ (¬ (srow bs i).type = 8 ∧ (partOf bs i).length = (srow bs i).size) ∨ (¬ (srow bs i).type = 8 ∧ ¬ (partOf bs i).length = (srow bs i).size) := by omega
  rcases h3 with h3 | ⟨h3, h4⟩ | ⟨h3, h4⟩
  ·
   have hok1 : (srow bs i).type = 8 ∨ (partOf bs i).length = (srow bs i).size := .inl h3
   refine sqK [0, 1, 5, 8, 9, 47, 48, 49] rfl ?_
   refine sc_seq ?_
   refine sc_draw [0, 1, 2, 3, 4, 5, 6, 7, 8, 9, 10, 11, 12, 13, 14] [] _ mixed (by kernel_rfl) (by kernel_rfl) (List.Subset.refl _) ?_
   refine dr_q rfl rfl (q_fieldj (j := 1) rfl Tryd.runUnderlying39 rfl Tryd.sizeOf3 rfl) ?_
   refine dr_q rfl rfl (q_load1 rfl Tryd.isAgg3 (i := 0) rfl rfl) ?_
   refine dr_q rfl rfl (q_decF (q_neq rfl rfl) (by omega)) ?_
   refine drM rfl rfl rfl ?_
   iterate 10 refine dr_gn rfl rfl rfl rfl rfl ?_
   refine dr_q rfl rfl (q_pick_f rfl rfl) ?_
   refine dr_nil ?_
   refine se_seq ?_
   refine scK [0, 1, 5, 47, 48, 49, 68] rfl ?_
   refine sc_cond_f rfl ?_
   refine sc_skip ?_
   refine se_block ?_
   refine se_seq ?_
   refine scK [0, 1, 5, 47, 48, 49] rfl ?_
   refine sc_region ?_
   refine sq_q (q_add rfl rfl (w_i64 (by omega) (by omega))) rfl ?_
   refine sqM rfl rfl ?_
   refine sq_nil ?_
   refine se_loop (i + 1, Ni + 1) (by dsimp only; omega) ⟨by dsimp only; omega, by dsimp only; omega, fun j hj => (by
    by_cases hji : j = i
    ·
     subst hji; exact hok1
    ·
     exact hinv j (by dsimp only at hj; omega))⟩ ⟨rfl, rfl, rfl, rfl, rfl, rfl, trivial⟩ (fun _ h => h.sublist (.cons _ (List.Sublist.refl _)))
  ·
   have hok1 : (srow bs i).type = 8 ∨ (partOf bs i).length = (srow bs i).size := .inr h4
   refine sqK [0, 1, 5, 8, 9, 47, 48, 49] rfl ?_
   refine sc_seq ?_
   refine sc_draw [0, 1, 2, 3, 4, 5, 6, 7, 8, 9, 10, 11, 12, 13, 14] [] _ mixed (by kernel_rfl) (by kernel_rfl) (List.Subset.refl _) ?_
   refine dr_q rfl rfl (q_fieldj (j := 1) rfl Tryd.runUnderlying39 rfl Tryd.sizeOf3 rfl) ?_
   refine dr_q rfl rfl (q_load1 rfl Tryd.isAgg3 (i := 0) rfl rfl) ?_
   refine dr_q rfl rfl (q_decT (q_neq rfl rfl) (by omega)) ?_
   refine drM rfl rfl rfl ?_
   refine dr_gy rfl rfl rfl rfl rfl (q_fieldj (j := 9) rfl Tryd.runUnderlying30 rfl Tryd.sizeOf27 rfl) ?_
   refine dr_gy rfl rfl rfl rfl rfl (q_load1 rfl Tryd.isAgg27 (i := 1) rfl rfl) ?_
   refine dr_gy rfl rfl rfl rfl rfl (q_move rfl) ?_
   refine dr_gy rfl rfl rfl rfl rfl (q_index (j := i) rfl rfl Tryd.runUnderlying27 Tryd.sizeOf22 ⟨by omega, by omega⟩ (by rw [Int.toNat_natCast]; omega)) ?_
   refine dr_gy rfl rfl rfl rfl rfl (q_load1 rfl Tryd.isAgg22 (i := j2 + 1) hj2 hp2) ?_
   refine dr_gy rfl rfl rfl rfl rfl (q_lenby rfl hy2.tl) ?_
   refine dr_gy rfl rfl rfl rfl rfl (q_conv rfl Tryd.runUnderlying3 Tryd.runUnderlying23 (w_u64 (by omega) (by omega))) ?_
   refine dr_gy rfl rfl rfl rfl rfl (q_fieldj (j := 5) rfl Tryd.runUnderlying39 rfl Tryd.sizeOf23 rfl) ?_
   refine dr_gy rfl rfl rfl rfl rfl (q_load1 rfl Tryd.isAgg23 (i := 0) rfl rfl) ?_
   refine dr_gy rfl rfl rfl rfl rfl (q_decF (q_neq rfl rfl) (by omega)) ?_
   refine dr_q rfl rfl (q_pick_t rfl rfl) ?_
   refine dr_nil ?_
   refine se_seq ?_
   refine scK [0, 1, 5, 47, 48, 49, 68] rfl ?_
   refine sc_cond_f rfl ?_
   refine sc_skip ?_
   refine se_block ?_
   refine se_seq ?_
   refine scK [0, 1, 5, 47, 48, 49] rfl ?_
   refine sc_region ?_
   refine sq_q (q_add rfl rfl (w_i64 (by omega) (by omega))) rfl ?_
   refine sqM rfl rfl ?_
   refine sq_nil ?_
   refine se_loop (i + 1, Ni + 1) (by dsimp only; omega) ⟨by dsimp only; omega, by dsimp only; omega, fun j hj => (by
    by_cases hji : j = i
    ·
     subst hji; exact hok1
    ·
     exact hinv j (by dsimp only at hj; omega))⟩ ⟨rfl, rfl, rfl, rfl, rfl, rfl, trivial⟩ (fun _ h => h.sublist (.cons _ (List.Sublist.refl _)))
  refine sqK [0, 1, 5, 8, 9, 47, 48, 49] rfl ?_
  refine sc_seq ?_
  refine sc_draw [0, 1, 2, 3, 4, 5, 6, 7, 8, 9, 10, 11, 12, 13, 14] [] _ mixed (by kernel_rfl) (by kernel_rfl) (List.Subset.refl _) ?_
  refine dr_q rfl rfl (q_fieldj (j := 1) rfl Tryd.runUnderlying39 rfl Tryd.sizeOf3 rfl) ?_
  refine dr_q rfl rfl (q_load1 rfl Tryd.isAgg3 (i := 0) rfl rfl) ?_
  refine dr_q rfl rfl (q_decT (q_neq rfl rfl) (by omega)) ?_
  refine drM rfl rfl rfl ?_
  refine dr_gy rfl rfl rfl rfl rfl (q_fieldj (j := 9) rfl Tryd.runUnderlying30 rfl Tryd.sizeOf27 rfl) ?_
  refine dr_gy rfl rfl rfl rfl rfl (q_load1 rfl Tryd.isAgg27 (i := 1) rfl rfl) ?_
  refine dr_gy rfl rfl rfl rfl rfl (q_move rfl) ?_
  refine dr_gy rfl rfl rfl rfl rfl (q_index (j := i) rfl rfl Tryd.runUnderlying27 Tryd.sizeOf22 ⟨by omega, by omega⟩ (by rw [Int.toNat_natCast]; omega)) ?_
  refine dr_gy rfl rfl rfl rfl rfl (q_load1 rfl Tryd.isAgg22 (i := j2 + 1) hj2 hp2) ?_
  refine dr_gy rfl rfl rfl rfl rfl (q_lenby rfl hy2.tl) ?_
  refine dr_gy rfl rfl rfl rfl rfl (q_conv rfl Tryd.runUnderlying3 Tryd.runUnderlying23 (w_u64 (by omega) (by omega))) ?_
  refine dr_gy rfl rfl rfl rfl rfl (q_fieldj (j := 5) rfl Tryd.runUnderlying39 rfl Tryd.sizeOf23 rfl) ?_
  refine dr_gy rfl rfl rfl rfl rfl (q_load1 rfl Tryd.isAgg23 (i := 0) rfl rfl) ?_
  refine dr_gy rfl rfl rfl rfl rfl (q_decT (q_neq rfl rfl) (by omega)) ?_
  refine dr_q rfl rfl (q_pick_t rfl rfl) ?_
  refine dr_nil ?_
  refine se_seq ?_
  refine scK [0, 1, 5, 47, 48, 49, 68] rfl ?_
  refine sc_cond_t rfl ?_
  refine scR ?_
  refine sqA rfl rfl ?_
  refine sqK [4] rfl ?_
  refine sc_ret ?_
  refine se_block_ret ?_
  iterate 2 refine se_then_ret ?_
  refine se_block_ret ?_
  refine se_then_ret ?_
  exact se_end (res1 Tryd.results4 rfl) (fun w' hw => ⟨rfl, hw.eff⟩)
 have hend1 : i = (hd bs).shnum := by omega
 subst hend1
 have hparts := hinv
 refine sqZ ?_
 refine sc_seq ?_
 refine sc_cond_f rfl ?_
 refine sc_exit ?_
 iterate 2 refine se_then_exit ?_
 refine se_block_hit ?_
 refine se_seq ?_
 refine scK [0, 1, 5] rfl ?_
 refine sc_seq ?_
 refine scR ?_
 refine sq_q (q_fieldj (j := 10) rfl Tryd.runUnderlying30 rfl Tryd.sizeOf28 rfl) rfl ?_
 refine sq_q (q_load1 rfl Tryd.isAgg28 (i := 0) rfl rfl) rfl ?_
 refine sq_q (q_len rfl Tryd.runUnderlying28) rfl ?_
 refine sqM rfl rfl ?_
 refine sqK [0, 1, 5, 71, 72, 73] rfl ?_
 refine sc_block ?_
 refine sc_loop (ι := Nat × Nat) (fun z => [(0, .slice ad bs.length c), (1, .slice ad2 ys.length cy), (5, .pointer (some ⟨Nf, 0, none⟩)), (71, .slice a3 (hd bs).phnum c3), (72, .int .i64 ((hd bs).phnum : Int)), (73, .int .i64 (z.1 : Int))]) (fun z => z.2) (fun _ => ((Nf, Obj.cells (hdrL bs ++ [Value.slice a1 (hd bs).shnum c1, Value.slice a2 (hd bs).shnum c2, Value.slice a3 (hd bs).phnum c3, Value.slice a4 (hd bs).phnum c4]).toArray 30 (0, 0)) :: (nf ++ ((1, g.o) :: (0, gu.o) :: am)))) (fun z => z.1 ≤ (hd bs).phnum ∧ w.heap.size ≤ z.2 ∧ ∀ j, j < z.1 → (bodyOf bs j).length = (prow bs j).filesz) (fun z => (hd bs).phnum - z.1) (0, Ni) ⟨⟨Nat.zero_le _, by dsimp only at *; omega, fun j hj => absurd hj (Nat.not_lt_zero _)⟩, ⟨rfl, rfl, rfl, rfl, rfl, rfl, trivial⟩, rfl, fun _ h => h⟩ ?_
 rintro ⟨i, Ni⟩ ⟨hi, hNi, hinv⟩
 dsimp only at hi hNi hinv
 change Sc _ _ _ _ _ _ [(0, .slice ad bs.length c), (1, .slice ad2 ys.length cy), (5, .pointer (some ⟨Nf, 0, none⟩)), (71, .slice a3 (hd bs).phnum c3), (72, .int .i64 ((hd bs).phnum : Int)), (73, .int .i64 (i : Int))] Ni ((Nf, Obj.cells (hdrL bs ++ [Value.slice a1 (hd bs).shnum c1, Value.slice a2 (hd bs).shnum c2, Value.slice a3 (hd bs).phnum c3, Value.slice a4 (hd bs).phnum c4]).toArray 30 (0, 0)) :: (nf ++ ((1, g.o) :: (0, gu.o) :: am)))
 refine scR ?_
 refine sq_split (q_lss rfl rfl) rfl (fun h15_0 => ?_) (fun h15_0 => ?_)
 ·
  have hin : i < (hd bs).phnum := by omega
  obtain ⟨b1, cap1, pad1, j1, hv1, hj1⟩ := pa1.blk (M := ((Nf, Obj.cells (hdrL bs ++ [Value.slice a1 (hd bs).shnum c1, Value.slice a2 (hd bs).shnum c2, Value.slice a3 (hd bs).phnum c3, Value.slice a4 (hd bs).phnum c4]).toArray 30 (0, 0)) :: (nf ++ ((1, g.o) :: (0, gu.o) :: am)))) (by omega) pah1
  obtain ⟨b2, cap2, pad2, j2, hv3, hj2⟩ := pa2.blk (M := ((Nf, Obj.cells (hdrL bs ++ [Value.slice a1 (hd bs).shnum c1, Value.slice a2 (hd bs).shnum c2, Value.slice a3 (hd bs).phnum c3, Value.slice a4 (hd bs).phnum c4]).toArray 30 (0, 0)) :: (nf ++ ((1, g.o) :: (0, gu.o) :: am)))) (by omega) pah2
  obtain ⟨rfl, -, rfl⟩ := Value.slice.inj hv1
  obtain ⟨rfl, -, rfl⟩ := Value.slice.inj hv3
  obtain ⟨u2, hu2, hp2⟩ := cell1 (pad := pad2) pa2.1 hin
  have hy2 := paf i u2 hu2
  obtain ⟨q1, q2, q3, q4, q5, q6, q7, q8⟩ := (prowAt_lt _ _ _ _ : (prow bs i).Lt)
  have hpl9 := bodyOf_le (b := bs) (i := i)
  refine sqZ ?_
  refine sc_seq ?_
  refine sc_cond_t rfl ?_
  refine scS ?_
  refine scK [0, 1, 5, 71, 72, 73] rfl ?_
  refine sc_seq ?_
  refine sc_block ?_
  refine scR ?_
  refine sqM rfl rfl ?_
  refine sq_q (q_index (j := i * 8) rfl rfl Tryd.runUnderlying28 Tryd.sizeOf41 ⟨by omega, by omega⟩ (by rw [Int.toNat_natCast]; omega)) rfl ?_
  refine sq_q (q_loadM rfl Tryd.isAgg41 Tryd.sizeOf41 (i := j1) hj1 (by rw [List.length_append, prgsL_length]; omega) (prg_at hin)) rfl ?_
  refine sq_m (m_alloc (l := [.int .i64 0, .int .i64 0, .int .u64 0, .int .u64 0, .int .u64 0, .int .u64 0, .int .u64 0, .int .u64 0]) Tryd.zeroValue41 rfl) rfl (fun _ _ => ?_)
  refine sqA rfl rfl ?_
  refine sq_m0 (m_stores (i := 0) (vs := prgV (prow bs i)) (l' := prgV (prow bs i)) rfl rfl Tryd.sizeOf41 rfl rfl rfl (by simp) rfl rfl (by intro h; omega)) (fun _ _ => ?_)
  by_cases h4 : (bodyOf bs i).length = (prow bs i).filesz
  ·
   have hok1 := h4
   refine sqK [0, 1, 5, 10, 11, 71, 72, 73] rfl ?_
   refine sc_seq ?_
   refine sc_draw [0, 1, 2, 3, 4, 5, 6, 7, 8, 9] [] _ mixed (by kernel_rfl) (by kernel_rfl) (List.Subset.refl _) ?_
   refine dr_q rfl rfl (q_fieldj (j := 11) rfl Tryd.runUnderlying30 rfl Tryd.sizeOf27 rfl) ?_
   refine dr_q rfl rfl (q_load1 rfl Tryd.isAgg27 (i := 1) rfl rfl) ?_
   refine drM rfl rfl rfl ?_
   refine dr_q rfl rfl (q_index (j := i) rfl rfl Tryd.runUnderlying27 Tryd.sizeOf22 ⟨by omega, by omega⟩ (by rw [Int.toNat_natCast]; omega)) ?_
   refine dr_q rfl rfl (q_load1 rfl Tryd.isAgg22 (i := j2 + 1) hj2 hp2) ?_
   refine dr_q rfl rfl (q_lenby rfl hy2.tl) ?_
   refine dr_q rfl rfl (q_conv rfl Tryd.runUnderlying3 Tryd.runUnderlying23 (w_u64 (by omega) (by omega))) ?_
   refine dr_q rfl rfl (q_fieldj (j := 5) rfl Tryd.runUnderlying41 rfl Tryd.sizeOf23 rfl) ?_
   refine dr_q rfl rfl (q_load1 rfl Tryd.isAgg23 (i := 0) rfl rfl) ?_
   refine dr_q rfl rfl (q_decF (q_neq rfl rfl) (by omega)) ?_
   refine dr_nil ?_
   refine se_seq ?_
   refine scK [0, 1, 5, 71, 72, 73, 87] rfl ?_
   refine sc_cond_f rfl ?_
   refine sc_skip ?_
   refine se_block ?_
   refine se_seq ?_
   refine scK [0, 1, 5, 71, 72, 73] rfl ?_
   refine sc_region ?_
   refine sq_q (q_add rfl rfl (w_i64 (by omega) (by omega))) rfl ?_
   refine sqM rfl rfl ?_
   refine sq_nil ?_
   refine se_loop (i + 1, Ni + 1) (by dsimp only; omega) ⟨by dsimp only; omega, by dsimp only; omega, fun j hj => (by
    by_cases hji : j = i
    ·
     subst hji; exact hok1
    ·
     exact hinv j (by dsimp only at hj; omega))⟩ ⟨rfl, rfl, rfl, rfl, rfl, rfl, trivial⟩ (fun _ h => h.sublist (.cons _ (List.Sublist.refl _)))
  refine sqK [0, 1, 5, 10, 11, 71, 72, 73] rfl ?_
  refine sc_seq ?_
  refine sc_draw [0, 1, 2, 3, 4, 5, 6, 7, 8, 9] [] _ mixed (by kernel_rfl) (by kernel_rfl) (List.Subset.refl _) ?_
  refine dr_q rfl rfl (q_fieldj (j := 11) rfl Tryd.runUnderlying30 rfl Tryd.sizeOf27 rfl) ?_
  refine dr_q rfl rfl (q_load1 rfl Tryd.isAgg27 (i := 1) rfl rfl) ?_
  refine drM rfl rfl rfl ?_
  refine dr_q rfl rfl (q_index (j := i) rfl rfl Tryd.runUnderlying27 Tryd.sizeOf22 ⟨by omega, by omega⟩ (by rw [Int.toNat_natCast]; omega)) ?_
  refine dr_q rfl rfl (q_load1 rfl Tryd.isAgg22 (i := j2 + 1) hj2 hp2) ?_
  refine dr_q rfl rfl (q_lenby rfl hy2.tl) ?_
  refine dr_q rfl rfl (q_conv rfl Tryd.runUnderlying3 Tryd.runUnderlying23 (w_u64 (by omega) (by omega))) ?_
  refine dr_q rfl rfl (q_fieldj (j := 5) rfl Tryd.runUnderlying41 rfl Tryd.sizeOf23 rfl) ?_
  refine dr_q rfl rfl (q_load1 rfl Tryd.isAgg23 (i := 0) rfl rfl) ?_
  refine dr_q rfl rfl (q_decT (q_neq rfl rfl) (by omega)) ?_
  refine dr_nil ?_
  refine se_seq ?_
  refine scK [0, 1, 5, 71, 72, 73, 87] rfl ?_
  refine sc_cond_t rfl ?_
  refine scR ?_
  refine sqA rfl rfl ?_
  refine sqK [4] rfl ?_
  refine sc_ret ?_
  refine se_block_ret ?_
  iterate 2 refine se_then_ret ?_
  refine se_block_ret ?_
  refine se_then_ret ?_
  exact se_end (res1 Tryd.results4 rfl) (fun w' hw => ⟨rfl, hw.eff⟩)
 have hend2 : i = (hd bs).phnum := by omega
 subst hend2
 have hwh : Whole bs := ⟨hparts, hinv⟩
 refine sqZ ?_
 refine sc_seq ?_
 refine sc_cond_f rfl ?_
 refine sc_exit ?_
 iterate 2 refine se_then_exit ?_
 refine se_block_hit ?_
 refine se_seq ?_
 refine scK [0, 1, 5] rfl ?_
 refine scR ?_
 refine sq_m (m_lit (vs := []) trivial (e := 5) (l := []) (fun w => by kernel_rfl)) rfl (fun _ _ => ?_)
 refine sqM rfl rfl ?_
 refine sq_row (m_app_src (i := Tryd.t5) (z := .int .u8 0) (k := 1) (n := 0) (m := bs.length) (RowOk.lit (L := w.heap.size) (b := Ni) (ys := []) rfl rfl (by omega) (by omega) rfl) rfl rfl (fun w1 h1 => src_by h1 Tryd.underlying22 (hv.mono fun p hp => by simp [hp])) (pull [_] _ [[]]) (fun _ => List.Perm.refl _) Tryd.underlying22 (by kernel_rfl) (by kernel_rfl) t5_size (by kernel_rfl) (by omega) (by rw [t5_bytes]; omega) (by omega) (by intro p hp h; rw [List.mem_singleton.1 hp] at h; dsimp only at h; omega)) (by omega) rfl (fun b5 cc5 N5 p5 hN5 hb5 hr5 => ?_)
 refine sqM rfl rfl ?_
 refine sq_row (m_app_src (i := Tryd.t5) (z := .int .u8 0) (k := 1) (n := 0 + bs.length) (m := ys.length) hr5 rfl rfl (fun w1 h1 => src_by h1 Tryd.underlying22 (hv2.mono fun p hp => by simp [hp])) (pull [_] _ [[]]) (fun _ => List.Perm.refl _) Tryd.underlying22 (by kernel_rfl) (by kernel_rfl) t5_size (by kernel_rfl) (by omega) (by rw [t5_bytes]; omega) (by omega) (by intro p hp h; rw [List.mem_singleton.1 hp] at h; dsimp only at h; omega)) (by omega) rfl (fun b6 cc6 N6 p6 hN6 hb6 hr6 => ?_)
 have hvb : ByIn [(b6, Obj.cells ((([] ++ bs.map u8v) ++ ys.map u8v) ++ p6).toArray 5 (0, 0))] (.slice (some ⟨b6, 0, none⟩) (0 + bs.length + ys.length) cc6) (bs ++ ys) := .inr ⟨b6, 0, cc6, _, 5, (0, 0), by rw [List.length_append, Nat.zero_add], by rw [List.length_append]; have := hr6.cap_le.1; omega, hr6.cap_le.2, List.mem_singleton.2 rfl, by
  unfold At
  rw [List.drop_zero, List.nil_append, ← List.map_append, List.take_left' (by rw [List.length_map])], by simp, by rw [List.length_append]; omega⟩
 refine sq_mem (ms := (b6, Obj.cells ((([] ++ bs.map u8v) ++ ys.map u8v) ++ p6).toArray 5 (0, 0)) :: ((Nf, Obj.cells (hdrL bs ++ [Value.slice a1 (hd bs).shnum c1, Value.slice a2 (hd bs).shnum c2, Value.slice a3 (hd bs).phnum c3, Value.slice a4 (hd bs).phnum c4]).toArray 30 (0, 0)) :: (nf ++ ((1, g.o) :: (0, gu.o) :: am)))) (fun w1 h1 => h1) ?_
 refine sq_m (file_inv (bs := bs ++ ys) (am := [(b6, Obj.cells ((([] ++ bs.map u8v) ++ ys.map u8v) ++ p6).toArray 5 (0, 0))]) (g := g) (gu := gu) (by rw [List.length_append]; omega) (plain_app hgood hpl) (fun _ => fits_app hgood hfit) hvb (fun p hp => by rw [List.mem_singleton.1 hp]; exact List.mem_cons_self) (fun p hp => by rw [List.mem_singleton.1 hp]; dsimp only; omega) (by simp) (by simp) rfl) rfl (fun y hy => ?_)
 obtain ⟨ok, zs, v1, v2, v3, v4, nn, Ng⟩ := y
 obtain ⟨hNg, hy8, hyall, hor⟩ := hy
 dsimp only at hNg hy8 hyall hor
 obtain ⟨hb9, -⟩ | ⟨-, hok, hys, ht⟩ := hor
 ·
  exact absurd (good_app hgood) hb9
 rw [hdrL_app hgood] at hys
 subst hok hys
 refine sqM rfl rfl ?_
 iterate 6 refine sq_q (q_extract rfl rfl) rfl ?_
 refine sq_m (m_alloc (l := [.int .i64 0, .int .i64 0, .int .i64 0, .int .i64 0, .int .i64 0, .int .i64 0, .int .i64 0, .int .u64 0]) Tryd.zeroValue25 rfl) rfl (fun _ _ => ?_)
 refine sq_m0 (m_stores (i := 0) (vs := (hdrL bs)) (l' := (hdrL bs)) rfl rfl Tryd.sizeOf25 hy8 hyall rfl (by simp) (by show [] ++ (hdrL bs) ++ [] = (hdrL bs); rw [List.append_nil]; rfl) rfl (by intro h; dsimp only at hNg h; omega)) (fun _ _ => ?_)
 iterate 5 refine sqA rfl rfl ?_
 refine sqKR [5, 12, 13, 14, 15, 16, 17] rfl ?_
 iterate 2 refine sqM rfl rfl ?_
 refine sq_gy rfl rfl rfl ?_
 obtain ⟨j3, hj3⟩ := List.getElem?_of_mem (show (Nf, Obj.cells (hdrL bs ++ [Value.slice a1 (hd bs).shnum c1, Value.slice a2 (hd bs).shnum c2, Value.slice a3 (hd bs).phnum c3, Value.slice a4 (hd bs).phnum c4]).toArray 30 (0, 0)) ∈ (Ng, Obj.cells (hdrL bs).toArray 25 (0, 0)) :: (nn ++ ((b6, Obj.cells ((([] ++ bs.map u8v) ++ ys.map u8v) ++ p6).toArray 5 (0, 0)) :: ((Nf, Obj.cells (hdrL bs ++ [Value.slice a1 (hd bs).shnum c1, Value.slice a2 (hd bs).shnum c2, Value.slice a3 (hd bs).phnum c3, Value.slice a4 (hd bs).phnum c4]).toArray 30 (0, 0)) :: (nf ++ ((1, g.o) :: (0, gu.o) :: am))))) by simp)
 refine sq_q (q_loadM rfl Tryd.isAgg30 Tryd.sizeOf30 (i := j3) (vs := (hdrL bs ++ [Value.slice a1 (hd bs).shnum c1, Value.slice a2 (hd bs).shnum c2, Value.slice a3 (hd bs).phnum c3, Value.slice a4 (hd bs).phnum c4])) hj3 (Nat.le_refl _) rfl) rfl ?_
 refine sq_gy rfl rfl rfl ?_
 refine sq_q (q_loadK rfl Tryd.isAgg25 Tryd.sizeOf25 (i := 0) (vs := hdrL bs) rfl rfl) rfl ?_
 refine sq_gy rfl rfl rfl ?_
 refine sqM rfl rfl ?_
 refine sq_gy rfl rfl rfl ?_
 refine sqM rfl rfl ?_
 refine sq_gy rfl rfl rfl ?_
 refine sqM rfl rfl ?_
 refine sq_gy rfl rfl rfl ?_
 refine sqM rfl rfl ?_
 refine sq_gy rfl rfl rfl ?_
 refine sq_m (found_inv (bs := bs) (tellIn_app hgood hwh (ht.tellIn fun p hp => by simp [hp])) (htf.tellIn fun p hp => by rcases List.mem_append.1 hp with hp | hp <;> simp [hp]) rfl rfl rfl rfl rfl rfl) rfl (fun n8 hn8 => ?_)
 refine sqT rfl rfl rfl ?_
 refine sqM rfl rfl ?_
 refine sq_gy rfl rfl rfl ?_
 refine sq_m (right_inv (g := g) (gu := gu) (by simp) (by simp)) rfl (fun n9 hn9 => ?_)
 refine sqT rfl rfl rfl ?_
 refine sqA rfl rfl ?_
 refine sqK [4] rfl ?_
 refine sc_ret ?_
 exact se_end (res1 Tryd.results4 rfl) (fun w' hw => ⟨rfl, hw.eff⟩)

end Go.Proofs.YtgkjnkhoopcjgaaDoor
/- What the row's reading gives: the library's errors and the bytes in memory; a world for the witness. No condition. -/
namespace Go.Proofs.YtgkjnkhoopcjgaaDoor
open Go.Sx Go.ChangeShapes Go.WideShapes Go.ChangeAt Go.RowKit
set_option maxRecDepth 100000

theorem ownNone : ownKnob Tryd.prog.godebug = none := by kernel_rfl
theorem laidOut1 : laidOutB Tryd.prog = true := by kernel_rfl
theorem gEof : Tryd.prog.globalNamed "io.EOF" = some 1 := by kernel_rfl
theorem gUnx : Tryd.prog.globalNamed "io.ErrUnexpectedEOF" = some 0 := by kernel_rfl
theorem gEofT : (Tryd.prog.globals[1]?).map (·.type) = some 86 := by kernel_rfl
theorem gUnxT : (Tryd.prog.globals[0]?).map (·.type) = some 86 := by kernel_rfl
theorem cells202 : Tryd.prog.cellsOf 202 = 1 := by kernel_rfl
theorem cells9 : Tryd.prog.cellsOf 9 = 1 := by kernel_rfl
theorem cells5 : Tryd.prog.cellsOf 5 = 1 := by kernel_rfl
theorem star177 : "*" ++ "errors.errorString" = "*errors.errorString" := by decide
theorem row177 (u : TypeId) (h : Tryd.prog.typeName? 3 u = some "*errors.errorString") : u = 177 :=
 typeName_ptr_named (nm := "errors.errorString") (by rw [star177]; kernel_rfl) (by kernel_rfl) (by decide) u (by rw [star177]; exact h)

/-- An error's block: one cell, an interface value with a pointer. -/
def ErrBlk (W : World) (b : Nat) : Prop := ∃ a t fr, W.heap[b]? = some (.cells #[.iface 177 (.pointer (some a))] t fr)
theorem ErrBlk.gx {W : World} {b : Nat} (h : ErrBlk W b) : ∃ g : Gx, W.heap[b]? = some g.o ∧ g.l.length = 1 := by
 obtain ⟨a, t, fr, h⟩ := h
 exact ⟨⟨[.iface 177 (.pointer (some a))], t, fr, a, rfl⟩, h, rfl⟩
/-- What the row's list gives: io.EOF and io.ErrUnexpectedEOF. -/
theorem errs_of_laid {W : World} (h : laidMetH Tryd.prog [("io.ErrShortBuffer", Rows.laid_io_ErrShortBuffer), ("io.EOF", Rows.laid_io_EOF), ("io.ErrUnexpectedEOF", Rows.laid_io_ErrUnexpectedEOF), ("io.errWhence", Rows.laid_io_errWhence), ("io.errOffset", Rows.laid_io_errOffset)] W) : ErrBlk W 1 ∧ ErrBlk W 0 := by
 rw [MakeChecks.laidMetH_plain _ _ _ (by kernel_rfl)] at h
 obtain ⟨ps, ⟨g0, t0, cs0, f0, p0, q0, hg0, ht0, hv0, hd0, ⟨g1, t1, cs1, f1, p1, q1, hg1, ht1, hv1, hd1, ⟨g2, t2, cs2, f2, p2, q2, hg2, ht2, hv2, hd2, hr, e2⟩, e1⟩, e0⟩, hnd, hrows⟩ := h
 obtain rfl := Option.some.inj (gEof.symm.trans hg1)
 obtain rfl := Option.some.inj (gUnx.symm.trans hg2)
 obtain rfl := Option.some.inj (gEofT.symm.trans ht1)
 obtain rfl := Option.some.inj (gUnxT.symm.trans ht2)
 subst e2; subst e1; subst e0
 obtain ⟨l1⟩ := cs1
 obtain ⟨l2⟩ := cs2
 have ok1 : ∀ u v, l1 = [.iface u v] → Value.okWide Tryd.prog W .any 0 u v := fun u v e => by
  subst e
  exact (hrows 1 0 (by simp [MemPlace.row])).2 u v (by simpa using World.var?_cell hg1 hv1 0)
 have ok2 : ∀ u v, l2 = [.iface u v] → Value.okWide Tryd.prog W .any 0 u v := fun u v e => by
  subst e
  exact (hrows 0 0 (by simp [MemPlace.row])).2 u v (by simpa using World.var?_cell hg2 hv2 0)
 obtain ⟨a1, s1, rfl, _⟩ := errorString_of_trod Tryd.underlying86 row177 Tryd.underlying177 Tryd.underlying202 rfl rfl Tryd.underlying9 cells202 cells9 hd1 ok1
 obtain ⟨a2, s2, rfl, _⟩ := errorString_of_trod Tryd.underlying86 row177 Tryd.underlying177 Tryd.underlying202 rfl rfl Tryd.underlying9 cells202 cells9 hd2 ok2
 have key : ∀ {n : String} {g : Nat} {a : Addr}, Tryd.prog.globalNamed n = some g → W.var? Tryd.prog n = some #[.iface 177 (.pointer (some a))] → ErrBlk W g := by
  intro n g a hg hv
  simp only [World.var?, hg, Option.bind_some] at hv
  split at hv
  ·
   rename_i cs t fr hb
   cases hv
   exact ⟨a, t, fr, hb⟩
  ·
   cases hv
 exact ⟨key hg1 hv1, key hg2 hv2⟩

/-- The bytes that came in. -/
theorem open_b {H : Type} {enc : TypeId × Value → H} {W : World} {base : Nat} {v : Value} {d : DataW H} {p : List MemPlace} (hval : Value.okWide Tryd.prog W .any base 22 v) (h : DataW.Trod enc Tryd.prog W 0 (fun _ => true) true 22 v d p)
  (h1 : ErrBlk W 1) (h0 : ErrBlk W 0) : ∃ (bs : List UInt8) (am : MM), ByIn am v bs ∧ Has am W ∧ (am = [] ∨ ∃ b o, am = [(b, o)] ∧ b ≠ 1 ∧ b ≠ 0) := by
 obtain ⟨ad, len, cap, rfl⟩ := okWide_slice Tryd.underlying22 hval
 obtain ⟨fuel, hf⟩ := h
 rcases open_ints Tryd.underlying22 Tryd.underlying5 cells5 hf with ⟨hcs, _⟩ | ⟨a, len', cap', zs, hcs, _, hl, hm, hz, _, hcell, hwz⟩
 ·
  simp [Value.cells] at hcs
  obtain ⟨rfl, rfl, rfl⟩ := hcs
  exact ⟨[], [], .inl ⟨rfl, none, 0, rfl⟩, (fun p hp => by cases hp), .inl rfl⟩
 ·
  simp [Value.cells] at hcs
  obtain ⟨rfl, rfl, rfl⟩ := hcs
  simp only [if_true] at hz
  by_cases hl0 : len = 0
  ·
   subst hl0
   exact ⟨[], [], .inl ⟨rfl, some a, cap, rfl⟩, (fun p hp => by cases hp), .inl rfl⟩
  ·
   obtain ⟨ab, ao, spot⟩ := a
   have hspot : spot = none := by simpa [Addr.add] using World.cell?_spot (hcell 0 (by omega))
   subst hspot
   have hc : ∀ j, j < zs.length → W.cell? ⟨ab, ao + j, none⟩ = some (.int .u8 (zs.getD j 0)) := fun j hj => by
    have := hcell j hj
    rwa [Addr.add_lit] at this
   have hb : ∃ cs t fr, W.heap[ab]? = some (.cells cs t fr) := by
    have := hc 0 (by omega)
    simp only [World.cell?] at this
    split at this
    ·
     rename_i cs t fr hb
     exact ⟨cs, t, fr, hb⟩
    ·
     cases this
   obtain ⟨⟨l⟩, t, fr, hb⟩ := hb
   have hcl : ∀ j, j < zs.length → l[ao + j]? = some (.int .u8 (zs.getD j 0)) := fun j hj => by
    have := hc j hj
    simpa [World.cell?, hb] using this
   have hne : ∀ k, ErrBlk W k → ab ≠ k := by
    rintro k ⟨a, t', fr', hk⟩ rfl
    rw [hb] at hk
    obtain ⟨hk, _⟩ := Obj.cells.inj (Option.some.inj hk)
    have h9 := hcl 0 (by omega)
    have hl9 : l = [.iface 177 (.pointer (some a))] := by simpa using hk
    subst hl9
    cases ao with
    | zero => simp at h9
    | succ n => simp at h9
   have hlen : ((zs.take len).map fun n => UInt8.ofNat n.toNat).length = len := by simp; omega
   have hat : (l.drop ao).take len = ((zs.take len).map fun n => UInt8.ofNat n.toNat).map u8v := by
    apply List.ext_getElem?
    intro j
    by_cases hj : j < len
    ·
     have hb2 := range_u8 hwz j
     have hd9 : zs[j]?.getD 0 = zs[j] := by simp [show j < zs.length by omega]
     rw [List.getElem?_take, if_pos hj, List.getElem?_drop, hcl j (by omega)]
     rw [hd9] at hb2
     simp [List.getElem?_take, hj, show j < zs.length by omega, u8v]
     omega
    ·
     rw [List.getElem?_eq_none (by simp; omega), List.getElem?_eq_none (by simp; omega)]
   have hll : ao + len ≤ l.length := by
    have h9 := hcl (len - 1) (by omega)
    have := (List.getElem?_eq_some_iff.1 h9).1
    omega
   refine ⟨(zs.take len).map fun n => UInt8.ofNat n.toNat, [(ab, .cells l.toArray t fr)], .inr ⟨ab, ao, cap, l, t, fr, by rw [hlen], by omega, by simp only [maxLen] at hm; omega, List.mem_singleton.2 rfl, by unfold At; rw [hlen]; exact hat, by omega, by omega⟩, fun p hp => by rw [List.mem_singleton.1 hp]; exact hb, .inr ⟨ab, _, rfl, hne 1 h1, hne 0 h0⟩⟩

theorem Eff.below {W W' : World} (h : Eff E0 W W') : Below W.heap.size W W' := ⟨h.os, h.tape, h.output, h.size, fun k hk => h.block k hk fun hF => hF⟩
end Go.Proofs.YtgkjnkhoopcjgaaDoor
/- The statement of laws.FnBehind, of whatever bytes: it returns true, and both arguments read as they did. Conditions: io's errors start as the program's text lays them (the card ties them). -/
namespace Go.Proofs.YtgkjnkhoopcjgaaDoor
open Go.Sx Go.ChangeShapes Go.WideShapes Go.ChangeAt Go.RowKit
set_option maxRecDepth 100000

theorem behind_lifted (os : Os) (started : os.Started) (H : Type) (enc : TypeId × Value → H) :
  ReturnsInHanded {} Tryd.checked os 4 .any (fun w args => (Rows.fnBehindSpec.pre enc Tryd.prog Tryd.f4 Rows.fnBehindRow.domain false w args ∧ laidMetH Tryd.prog Rows.fnBehindRow.laid w) ∧ sizedMet enc Tryd.prog Tryd.f4 (OpenSpec.ofChange Rows.fnBehindSpec) false w args)
   (Rows.fnBehindSpec.post enc Tryd.prog Tryd.f4 false true false false) := by
 refine returnsInHanded_of_change_and (C := Tryd.checked) (X := fun w _ => laidMetH Tryd.prog Rows.fnBehindRow.laid w) (fun _ _ _ hh h => h.of_heap hh) ownNone started (by kernel_rfl) Tryd.func4
  (ChangeSpec.witness_shaped (enc := enc) (C := Tryd.checked) (os := os) (X := fun w _ => laidMetH Tryd.prog Rows.fnBehindRow.laid w) false (World.laidAll Tryd.prog os Rows.fnBehindRow.laid) #[.slice none 0 0, .slice none 0 0] 8 (World.laidAll_os _ _ _)
   (World.shaped_of_ZipB (by kernel_rfl) (by kernel_rfl)) (by kernel_rfl) (by kernel_rfl) (by kernel_rfl)
   (by rw [MakeChecks.laidMetH_plain _ _ _ (by kernel_rfl)]; exact laidMet_laidAll _ (by kernel_rfl) (by kernel_rfl))) ?_
 intro W base args ds gs before hval0 hW hc _ hL _
 have hval : ∀ (j : Nat) t v, Tryd.f4.params[j]? = some t → args[j]? = some v → Value.okWide Tryd.prog W .any base t v := hval0
 have hW' := hW
 obtain ⟨p, q, hA0, hV, rfl, _, _⟩ := hW
 have hA : DataW.TrodAll enc Tryd.prog W 0 (fun _ => true) true Tryd.f4.params.toList args.toList ds p := hA0
 rw [Tryd.params4] at hA hval
 obtain ⟨v0, v1, d0, d1, p0, p1, rfl, rfl, rfl, h0, h1⟩ := trodAll_two hA
 obtain ⟨rfl, rfl⟩ := trodVars_none hV
 have hE := errs_of_laid hL
 obtain ⟨g, hg, _⟩ := hE.1.gx
 obtain ⟨gu, hgu, _⟩ := hE.2.gx
 obtain ⟨bs, am, hv, hM, hor⟩ := open_b (hval 0 22 v0 rfl rfl) h0 hE.1 hE.2
 obtain ⟨ys, am2, hv2, hM2, hor2⟩ := open_b (hval 1 22 v1 rfl rfl) h1 hE.1 hE.2
 have hun : ∃ mm : MM, ByIn mm v0 bs ∧ ByIn mm v1 ys ∧ Has mm W ∧ (mm.map Prod.fst).Nodup ∧ ∀ p ∈ mm, p.1 ≠ 1 ∧ p.1 ≠ 0 := by
  rcases hor with rfl | ⟨b, o, rfl, n1, n0⟩
  ·
   refine ⟨am2, hv.mono (List.nil_subset _), hv2, hM2, ?_, ?_⟩
   ·
    rcases hor2 with rfl | ⟨b, o, rfl, _⟩ <;> simp
   ·
    rcases hor2 with rfl | ⟨b, o, rfl, m1, m0⟩
    ·
     intro p hp; cases hp
    ·
     intro p hp; rw [List.mem_singleton.1 hp]; exact ⟨m1, m0⟩
  ·
   rcases hor2 with rfl | ⟨b2, o2, rfl, m1, m0⟩
   ·
    exact ⟨[(b, o)], hv, hv2.mono (List.nil_subset _), hM, by simp, fun p hp => by rw [List.mem_singleton.1 hp]; exact ⟨n1, n0⟩⟩
   ·
    by_cases hbb : b = b2
    ·
     subst hbb
     have e1 := hM _ (List.mem_singleton.2 rfl)
     have e2 := hM2 _ (List.mem_singleton.2 rfl)
     dsimp only at e1 e2
     obtain rfl := Option.some.inj (e1.symm.trans e2)
     exact ⟨[(b, o)], hv, hv2, hM, by simp, fun p hp => by rw [List.mem_singleton.1 hp]; exact ⟨n1, n0⟩⟩
    ·
     refine ⟨[(b, o), (b2, o2)], hv.mono (fun p hp => by rw [List.mem_singleton.1 hp]; simp), hv2.mono (fun p hp => by rw [List.mem_singleton.1 hp]; simp), ?_, by simp [hbb], ?_⟩
     ·
      intro p hp
      rcases List.mem_cons.1 hp with rfl | hp
      ·
       exact hM _ (List.mem_singleton.2 rfl)
      ·
       exact hM2 _ hp
     ·
      intro p hp
      rcases List.mem_cons.1 hp with rfl | hp
      ·
       exact ⟨n1, n0⟩
      ·
       rw [List.mem_singleton.1 hp]; exact ⟨m1, m0⟩
 obtain ⟨mm, k1, k2, k3, k4, k5⟩ := hun
 simp only [List.append_nil] at hW'
 refine (behind4 k1 k2 k3 k4 k5 hg hgu).mono fun e W' ⟨he, hf⟩ => ?_
 subst he
 have hb := Go.Proofs.YtgkjnkhoopcjgaaDoor.Eff.below hf
 exact ⟨_, rfl, _, _, _, [], p0 ++ p1, [], hW', trodAll_mk1 (shut_bool Tryd.underlying4 _),
  trodAll_mk2 (hb.trod laidOut1 (by kernel_rfl) (of_decide_eq_true (by kernel_rfl)) h0 fun x hx => by simpa using hW'.lt x (List.mem_append_left _ hx)) (hb.trod laidOut1 (by kernel_rfl) (of_decide_eq_true (by kernel_rfl)) h1 fun x hx => by simpa using hW'.lt x (List.mem_append_right _ hx)), rfl, hb.frame _, fun h => by cases h⟩

theorem behind_said : Rows.FnBehindSaid :=
 OpenClaim.holds_of_wide 4 Tryd.f4 rfl rfl rfl rfl rfl rfl rfl ⟨rfl, rfl, rfl, rfl, rfl⟩ rfl rfl rfl rfl rfl (by kernel_rfl) Tryd.func4 (by kernel_rfl)
  (of_decide_eq_true (by kernel_rfl)) (by unfold Func.isWrapper; first | (rw [if_pos (by decide +kernel)]; kernel_rfl) | (rw [if_neg (by decide +kernel)]; exact ⟨rfl, rfl⟩))
  (fun os started H enc _ => behind_lifted os started H enc)

theorem behind_plain (f : FuncId) (fn : Func) (hf : Tryd.pinned.checked.prog.funcNamed "loop.example/pub-g03084/laws.FnBehind" = some f) (hfn : Tryd.pinned.checked.prog.funcs[f]? = some fn) :
  true = Tryd.pinned.checked.prog.looks [] ∧ ∀ (j : Nat) t, fn.params[j]? = some t → Tryd.pinned.checked.prog.wantsStandIn t = false := by
 obtain rfl : f = 4 := Option.some.inj ((show Tryd.prog.funcNamed "loop.example/pub-g03084/laws.FnBehind" = some 4 by kernel_rfl).symm.trans hf) |>.symm
 obtain rfl : fn = Tryd.f4 := (Option.some.inj (Tryd.func4.symm.trans hfn)).symm
 refine ⟨by kernel_rfl, fun j t ht => ?_⟩
 rw [Tryd.params4] at ht
 obtain rfl : t = 22 := by
  have := Array.mem_of_getElem? ht
  simpa using this
 exact (show Tryd.prog.wantsStandIn 22 = false by kernel_rfl)

/-- The tied card of laws.FnBehind. -/
theorem behind_card : Rows.FnBehindCardSaid :=
 Claim7.holds_tied_plain_at .later [] _ _ _ _ behind_said (fun _ h => by cases h) (by kernel_rfl) (fun _ h => by cases h) fnBehind_row_tie rfl ⟨rfl, rfl⟩ (by kernel_rfl) rfl behind_plain (by kernel_rfl)
end Go.Proofs.YtgkjnkhoopcjgaaDoor
