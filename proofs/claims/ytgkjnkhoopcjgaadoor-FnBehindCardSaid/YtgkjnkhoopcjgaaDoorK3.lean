/- Part 3 of the proof: Wn3, Wn4, Wn5, Wn6. By program out of the working texts. Conditions: as each theorem says. -/
import Derived.Test.YtgkjnkhoopcjgaaDoorK2
/- NewFile: the header's checks. Conditions: the bytes lie in memory, at most 8192 of them; the header has been read. -/
namespace Go.Proofs.YtgkjnkhoopcjgaaDoor
open Go.Sx
set_option maxRecDepth 100000

/-- The header's checks hold, but for those of the sections' table. -/
structure ChkOk (bs : List UInt8) : Prop where
 rd : RdOk bs
 ph : (hd bs).phoff < 9223372036854775808
 sh : (hd bs).shoff < 9223372036854775808
 zero : (hd bs).shoff = 0 → (hd bs).shnum = 0
 nm : 0 < (hd bs).shnum → (hd bs).names < (hd bs).shnum
 phe : 0 < (hd bs).phnum → wd (isWide bs) 32 56 ≤ (hd bs).phes

def StD (g gu : Gx) (bs : List UInt8) (u : Value) (ms : MM) (w0 : World) : Prop := ∀ big wide fp sb N, ChkOk bs → isBig bs = big → isWide bs = wide → w0.heap.size ≤ fp → w0.heap.size ≤ sb →
 Sc Tryd.prog r28 (bodyPost Tryd.prog Tryd.f22 (NF bs u ((1, g.o) :: (0, gu.o) :: ms) w0)) 1287 w0 E0 [(0, .iface 117 u), (4, .pointer (some ⟨sb, 0, none⟩)), (8, .pointer (some ⟨fp, 0, none⟩)), (9, .int .u8 (ordN big)), (10, .int .i64 ((hd bs).phoff : Int)), (11, .int .i64 ((hd bs).phes : Int)), (12, .int .i64 ((hd bs).phnum : Int)), (13, .int .i64 ((hd bs).shoff : Int)), (14, .int .i64 ((hd bs).shes : Int)), (15, .int .i64 ((hd bs).shnum : Int)), (16, .int .i64 ((hd bs).names : Int)), (26, .int .i64 ((wd wide 40 64 : Nat) : Int))] N
  ((fp, fileO bs big (hd bs).type (hd bs).machine (hd bs).entry (.slice none 0 0) (.slice none 0 0)) :: (sb, rdO u 0 9223372036854775807) :: (1, g.o) :: (0, gu.o) :: ms)

theorem nf_c_false {g gu : Gx} {bs : List UInt8} {u : Value} {ms : MM} {w0 : World} (cx : Cx g gu bs u ms w0) (hD : StD g gu bs u ms w0) (hwd : isWide bs = false) : StC g gu bs u ms w0 := by
 intro big fp sb N hrd hbig hfp hsb
 have c4 : bv bs 4 = 1 := by have := hrd.id.cls; simp [isWide] at hwd; omega
 obtain ⟨hl1, hl2, hl3, hl4, hl5, hl6, hl7, hl8, hl9, hl10, hl11⟩ := hd_lt bs
 have e10 : (IntKind.i64.wrap ((hd bs).phoff : Int) < 0 ∧ ¬ (hd bs).phoff < 9223372036854775808) ∨ (IntKind.i64.wrap ((hd bs).phoff : Int) = (hd bs).phoff ∧ (hd bs).phoff < 9223372036854775808) := by rw [IntKind.wrap_i64]; omega
 have e13 : (IntKind.i64.wrap ((hd bs).shoff : Int) < 0 ∧ ¬ (hd bs).shoff < 9223372036854775808) ∨ (IntKind.i64.wrap ((hd bs).shoff : Int) = (hd bs).shoff ∧ (hd bs).shoff < 9223372036854775808) := by rw [IntKind.wrap_i64]; omega
 generalize IntKind.i64.wrap ((hd bs).phoff : Int) = x10 at *
 generalize IntKind.i64.wrap ((hd bs).shoff : Int) = x13 at *
 refine sc_seq ?_
 refine scR ?_
 refine sqM rfl rfl ?_
 refine sq_split (q_lss rfl rfl) rfl (fun h69_1 => ?_) (fun h69_1 => ?_)
 ·
  have hbad : ¬ Good bs := fun hg => by have h9 := hg.head.sh; omega
  refine sqK [0, 4, 8, 9, 10, 11, 12, 13, 14, 15, 16, 367] rfl ?_
  refine sc_cond_t rfl ?_
  refine scR ?_
  refine sqM rfl rfl ?_
  refine sq_q (q_iface rfl Tryd.runUnderlying2 rfl) rfl ?_
  refine sq_q (q_build (vs := [(0, _), (1, _), (2, _)]) ⟨rfl, rfl, rfl, rfl, rfl, rfl, trivial⟩ b139) rfl ?_
  refine sq_m (m_box rfl rfl) rfl (fun _ _ => ?_)
  refine sq_q (q_iface rfl Tryd.runUnderlying137 rfl) rfl ?_
  iterate 2 refine sqA rfl rfl ?_
  refine sqK [2, 3] rfl ?_
  refine sc_ret ?_
  refine se_then_ret ?_
  exact se_end (res2 Tryd.results22 rfl rfl) (fun w' hw => .inl ⟨hbad, ⟨_, _, _, rfl⟩, hw.eff⟩)
 obtain rfl : x13 = ((hd bs).shoff : Int) := by omega
 have hsh : (hd bs).shoff < 9223372036854775808 := by omega
 refine sqK [0, 4, 8, 9, 10, 11, 12, 13, 14, 15, 16, 367] rfl ?_
 refine sc_cond_f rfl ?_
 refine scS ?_
 refine scK [0, 4, 8, 9, 10, 11, 12, 13, 14, 15, 16] rfl ?_
 refine sc_seq ?_
 refine scR ?_
 refine sqM rfl rfl ?_
 refine sq_split (q_lss rfl rfl) rfl (fun h71_1 => ?_) (fun h71_1 => ?_)
 ·
  have hbad : ¬ Good bs := fun hg => by have h9 := hg.head.ph; omega
  refine sqK [0, 4, 8, 9, 10, 11, 12, 13, 14, 15, 16, 374] rfl ?_
  refine sc_cond_t rfl ?_
  refine scR ?_
  refine sqM rfl rfl ?_
  refine sq_q (q_iface rfl Tryd.runUnderlying2 rfl) rfl ?_
  refine sq_q (q_build (vs := [(0, _), (1, _), (2, _)]) ⟨rfl, rfl, rfl, rfl, rfl, rfl, trivial⟩ b139) rfl ?_
  refine sq_m (m_box rfl rfl) rfl (fun _ _ => ?_)
  refine sq_q (q_iface rfl Tryd.runUnderlying137 rfl) rfl ?_
  iterate 2 refine sqA rfl rfl ?_
  refine sqK [2, 3] rfl ?_
  refine sc_ret ?_
  refine se_then_ret ?_
  exact se_end (res2 Tryd.results22 rfl rfl) (fun w' hw => .inl ⟨hbad, ⟨_, _, _, rfl⟩, hw.eff⟩)
 obtain rfl : x10 = ((hd bs).phoff : Int) := by omega
 have hph : (hd bs).phoff < 9223372036854775808 := by omega
 refine sqK [0, 4, 8, 9, 10, 11, 12, 13, 14, 15, 16, 374] rfl ?_
 refine sc_cond_f rfl ?_
 refine scS ?_
 refine scK [0, 4, 8, 9, 10, 11, 12, 13, 14, 15, 16] rfl ?_
 refine sc_seq ?_
 refine scR ?_
 refine sqM rfl rfl ?_
 refine sq_split (q_eql rfl rfl) rfl (fun h73_1 => ?_) (fun h73_1 => ?_)
 ·
  have _tok := trivial
  refine sqM rfl rfl ?_
  refine sq_gy rfl rfl rfl ?_
  refine sqM rfl rfl ?_
  refine sq_gy rfl rfl rfl ?_
  refine sq_split (q_neq rfl rfl) rfl (fun h73_4 => ?_) (fun h73_4 => ?_)
  ·
   have hbad : ¬ Good bs := fun hg => by have h9 := hg.head.zero; omega
   refine sqT rfl rfl rfl ?_
   refine sqK [0, 4, 8, 9, 10, 11, 12, 13, 14, 15, 16, 385] rfl ?_
   refine sc_cond_t rfl ?_
   refine scR ?_
   refine sqM rfl rfl ?_
   refine sq_q (q_iface rfl Tryd.runUnderlying3 rfl) rfl ?_
   refine sq_q (q_build (vs := [(0, _), (1, _), (2, _)]) ⟨rfl, rfl, rfl, rfl, rfl, rfl, trivial⟩ b139) rfl ?_
   refine sq_m (m_box rfl rfl) rfl (fun _ _ => ?_)
   refine sq_q (q_iface rfl Tryd.runUnderlying137 rfl) rfl ?_
   iterate 2 refine sqA rfl rfl ?_
   refine sqK [2, 3] rfl ?_
   refine sc_ret ?_
   refine se_then_ret ?_
   exact se_end (res2 Tryd.results22 rfl rfl) (fun w' hw => .inl ⟨hbad, ⟨_, _, _, rfl⟩, hw.eff⟩)
  refine sqT rfl rfl rfl ?_
  refine sqK [0, 4, 8, 9, 10, 11, 12, 13, 14, 15, 16, 385] rfl ?_
  refine sc_cond_f rfl ?_
  refine scS ?_
  refine scK [0, 4, 8, 9, 10, 11, 12, 13, 14, 15, 16] rfl ?_
  refine sc_seq ?_
  refine scR ?_
  refine sqM rfl rfl ?_
  refine sq_split (q_gtr rfl rfl) rfl (fun h75_1 => ?_) (fun h75_1 => ?_)
  ·
   have _tok := trivial
   refine sqM rfl rfl ?_
   refine sq_gy rfl rfl rfl ?_
   refine sqM rfl rfl ?_
   refine sq_gy rfl rfl rfl ?_
   refine sqM rfl rfl ?_
   refine sq_gy rfl rfl rfl ?_
   refine sq_split (q_geq rfl rfl) rfl (fun h75_5 => ?_) (fun h75_5 => ?_)
   ·
    have hbad : ¬ Good bs := fun hg => by have h9 := hg.head.nm; omega
    refine sqT rfl rfl rfl ?_
    refine sqK [0, 4, 8, 9, 10, 11, 12, 13, 14, 15, 16, 397] rfl ?_
    refine sc_cond_t rfl ?_
    refine scR ?_
    refine sqM rfl rfl ?_
    refine sq_q (q_iface rfl Tryd.runUnderlying3 rfl) rfl ?_
    refine sq_q (q_build (vs := [(0, _), (1, _), (2, _)]) ⟨rfl, rfl, rfl, rfl, rfl, rfl, trivial⟩ b139) rfl ?_
    refine sq_m (m_box rfl rfl) rfl (fun _ _ => ?_)
    refine sq_q (q_iface rfl Tryd.runUnderlying137 rfl) rfl ?_
    iterate 2 refine sqA rfl rfl ?_
    refine sqK [2, 3] rfl ?_
    refine sc_ret ?_
    refine se_then_ret ?_
    exact se_end (res2 Tryd.results22 rfl rfl) (fun w' hw => .inl ⟨hbad, ⟨_, _, _, rfl⟩, hw.eff⟩)
   refine sqT rfl rfl rfl ?_
   refine sqK [0, 4, 8, 9, 10, 11, 12, 13, 14, 15, 16, 397] rfl ?_
   refine sc_cond_f rfl ?_
   refine scS ?_
   refine scK [0, 4, 8, 9, 10, 11, 12, 13, 14, 15, 16] rfl ?_
   refine scR ?_
   iterate 2 refine sqA rfl rfl ?_
   refine sqZ ?_
   refine sc_seq ?_
   refine scR ?_
   refine sqM rfl rfl ?_
   refine sq_q (q_nil rfl) rfl ?_
   refine sq_q (q_fieldj (j := 0) rfl Tryd.runUnderlying72 rfl Tryd.sizeOf66 rfl) rfl ?_
   refine sq_q (q_fieldj (j := 0) rfl Tryd.runUnderlying66 rfl Tryd.sizeOf57 rfl) rfl ?_
   refine sq_q (q_load1 rfl Tryd.isAgg57 (i := 0) rfl rfl) rfl ?_
   refine sqK [0, 4, 8, 9, 10, 11, 12, 13, 14, 15, 16, 25, 26, 407] rfl ?_
   refine sc_block ?_
   refine scR ?_
   refine sq_q (q_decT (q_eql rfl rfl) (by omega)) rfl ?_
   refine sqA rfl rfl ?_
   refine sqK [0, 4, 8, 9, 10, 11, 12, 13, 14, 15, 16, 25, 26, 407, 408] rfl ?_
   refine sc_cond_t rfl ?_
   refine scR ?_
   refine sqA rfl rfl ?_
   refine sqK [0, 4, 8, 9, 10, 11, 12, 13, 14, 15, 16, 25] rfl ?_
   refine sc_region ?_
   refine sqA rfl rfl ?_
   refine sq_nil ?_
   refine se_block ?_
   refine se_seq ?_
   refine sc_seq ?_
   refine scR ?_
   refine sqM rfl rfl ?_
   refine sq_split (q_gtr rfl rfl) rfl (fun h85_1 => ?_) (fun h85_1 => ?_)
   ·
    have _tok := trivial
    refine sqM rfl rfl ?_
    refine sq_gy rfl rfl rfl ?_
    refine sqM rfl rfl ?_
    refine sq_gy rfl rfl rfl ?_
    refine sqM rfl rfl ?_
    refine sq_gy rfl rfl rfl ?_
    refine sq_split (q_lss rfl rfl) rfl (fun h85_5 => ?_) (fun h85_5 => ?_)
    ·
     have hbad : ¬ Good bs := fun hg => by have h9 := hg.head.phe; rw [hwd, show wd false 32 56 = 32 from rfl] at h9; omega
     refine sqT rfl rfl rfl ?_
     refine sqK [0, 4, 8, 9, 10, 11, 12, 13, 14, 15, 16, 26, 418] rfl ?_
     refine sc_cond_t rfl ?_
     refine scR ?_
     refine sqM rfl rfl ?_
     refine sq_q (q_iface rfl Tryd.runUnderlying3 rfl) rfl ?_
     refine sq_q (q_build (vs := [(0, _), (1, _), (2, _)]) ⟨rfl, rfl, rfl, rfl, rfl, rfl, trivial⟩ b139) rfl ?_
     refine sq_m (m_box rfl rfl) rfl (fun _ _ => ?_)
     refine sq_q (q_iface rfl Tryd.runUnderlying137 rfl) rfl ?_
     iterate 2 refine sqA rfl rfl ?_
     refine sqK [2, 3] rfl ?_
     refine sc_ret ?_
     refine se_then_ret ?_
     exact se_end (res2 Tryd.results22 rfl rfl) (fun w' hw => .inl ⟨hbad, ⟨_, _, _, rfl⟩, hw.eff⟩)
    refine sqT rfl rfl rfl ?_
    refine sqK [0, 4, 8, 9, 10, 11, 12, 13, 14, 15, 16, 26, 418] rfl ?_
    refine sc_cond_f rfl ?_
    refine scS ?_
    iterate 2 refine scK [0, 4, 8, 9, 10, 11, 12, 13, 14, 15, 16, 26] rfl ?_
    exact hD _ _ _ _ _ ⟨hrd, hph, hsh, by omega, by omega, by rw [hwd]; show _ → 32 ≤ _; omega⟩ hbig hwd hfp hsb
   refine sqM rfl rfl ?_
   iterate 3 refine sq_gn rfl rfl rfl rfl ?_
   refine sqF rfl rfl rfl ?_
   refine sqK [0, 4, 8, 9, 10, 11, 12, 13, 14, 15, 16, 26, 418] rfl ?_
   refine sc_cond_f rfl ?_
   refine scS ?_
   iterate 2 refine scK [0, 4, 8, 9, 10, 11, 12, 13, 14, 15, 16, 26] rfl ?_
   exact hD _ _ _ _ _ ⟨hrd, hph, hsh, by omega, by omega, by rw [hwd]; show _ → 32 ≤ _; omega⟩ hbig hwd hfp hsb
  refine sqM rfl rfl ?_
  iterate 3 refine sq_gn rfl rfl rfl rfl ?_
  refine sqF rfl rfl rfl ?_
  refine sqK [0, 4, 8, 9, 10, 11, 12, 13, 14, 15, 16, 397] rfl ?_
  refine sc_cond_f rfl ?_
  refine scS ?_
  refine scK [0, 4, 8, 9, 10, 11, 12, 13, 14, 15, 16] rfl ?_
  refine scR ?_
  iterate 2 refine sqA rfl rfl ?_
  refine sqZ ?_
  refine sc_seq ?_
  refine scR ?_
  refine sqM rfl rfl ?_
  refine sq_q (q_nil rfl) rfl ?_
  refine sq_q (q_fieldj (j := 0) rfl Tryd.runUnderlying72 rfl Tryd.sizeOf66 rfl) rfl ?_
  refine sq_q (q_fieldj (j := 0) rfl Tryd.runUnderlying66 rfl Tryd.sizeOf57 rfl) rfl ?_
  refine sq_q (q_load1 rfl Tryd.isAgg57 (i := 0) rfl rfl) rfl ?_
  refine sqK [0, 4, 8, 9, 10, 11, 12, 13, 14, 15, 16, 25, 26, 407] rfl ?_
  refine sc_block ?_
  refine scR ?_
  refine sq_q (q_decT (q_eql rfl rfl) (by omega)) rfl ?_
  refine sqA rfl rfl ?_
  refine sqK [0, 4, 8, 9, 10, 11, 12, 13, 14, 15, 16, 25, 26, 407, 408] rfl ?_
  refine sc_cond_t rfl ?_
  refine scR ?_
  refine sqA rfl rfl ?_
  refine sqK [0, 4, 8, 9, 10, 11, 12, 13, 14, 15, 16, 25] rfl ?_
  refine sc_region ?_
  refine sqA rfl rfl ?_
  refine sq_nil ?_
  refine se_block ?_
  refine se_seq ?_
  refine sc_seq ?_
  refine scR ?_
  refine sqM rfl rfl ?_
  refine sq_split (q_gtr rfl rfl) rfl (fun h85_1 => ?_) (fun h85_1 => ?_)
  ·
   have _tok := trivial
   refine sqM rfl rfl ?_
   refine sq_gy rfl rfl rfl ?_
   refine sqM rfl rfl ?_
   refine sq_gy rfl rfl rfl ?_
   refine sqM rfl rfl ?_
   refine sq_gy rfl rfl rfl ?_
   refine sq_split (q_lss rfl rfl) rfl (fun h85_5 => ?_) (fun h85_5 => ?_)
   ·
    have hbad : ¬ Good bs := fun hg => by have h9 := hg.head.phe; rw [hwd, show wd false 32 56 = 32 from rfl] at h9; omega
    refine sqT rfl rfl rfl ?_
    refine sqK [0, 4, 8, 9, 10, 11, 12, 13, 14, 15, 16, 26, 418] rfl ?_
    refine sc_cond_t rfl ?_
    refine scR ?_
    refine sqM rfl rfl ?_
    refine sq_q (q_iface rfl Tryd.runUnderlying3 rfl) rfl ?_
    refine sq_q (q_build (vs := [(0, _), (1, _), (2, _)]) ⟨rfl, rfl, rfl, rfl, rfl, rfl, trivial⟩ b139) rfl ?_
    refine sq_m (m_box rfl rfl) rfl (fun _ _ => ?_)
    refine sq_q (q_iface rfl Tryd.runUnderlying137 rfl) rfl ?_
    iterate 2 refine sqA rfl rfl ?_
    refine sqK [2, 3] rfl ?_
    refine sc_ret ?_
    refine se_then_ret ?_
    exact se_end (res2 Tryd.results22 rfl rfl) (fun w' hw => .inl ⟨hbad, ⟨_, _, _, rfl⟩, hw.eff⟩)
   refine sqT rfl rfl rfl ?_
   refine sqK [0, 4, 8, 9, 10, 11, 12, 13, 14, 15, 16, 26, 418] rfl ?_
   refine sc_cond_f rfl ?_
   refine scS ?_
   iterate 2 refine scK [0, 4, 8, 9, 10, 11, 12, 13, 14, 15, 16, 26] rfl ?_
   exact hD _ _ _ _ _ ⟨hrd, hph, hsh, by omega, by omega, by rw [hwd]; show _ → 32 ≤ _; omega⟩ hbig hwd hfp hsb
  refine sqM rfl rfl ?_
  iterate 3 refine sq_gn rfl rfl rfl rfl ?_
  refine sqF rfl rfl rfl ?_
  refine sqK [0, 4, 8, 9, 10, 11, 12, 13, 14, 15, 16, 26, 418] rfl ?_
  refine sc_cond_f rfl ?_
  refine scS ?_
  iterate 2 refine scK [0, 4, 8, 9, 10, 11, 12, 13, 14, 15, 16, 26] rfl ?_
  exact hD _ _ _ _ _ ⟨hrd, hph, hsh, by omega, by omega, by rw [hwd]; show _ → 32 ≤ _; omega⟩ hbig hwd hfp hsb
 refine sqM rfl rfl ?_
 iterate 2 refine sq_gn rfl rfl rfl rfl ?_
 refine sqF rfl rfl rfl ?_
 refine sqK [0, 4, 8, 9, 10, 11, 12, 13, 14, 15, 16, 385] rfl ?_
 refine sc_cond_f rfl ?_
 refine scS ?_
 refine scK [0, 4, 8, 9, 10, 11, 12, 13, 14, 15, 16] rfl ?_
 refine sc_seq ?_
 refine scR ?_
 refine sqM rfl rfl ?_
 refine sq_split (q_gtr rfl rfl) rfl (fun h75_1 => ?_) (fun h75_1 => ?_)
 ·
  have _tok := trivial
  refine sqM rfl rfl ?_
  refine sq_gy rfl rfl rfl ?_
  refine sqM rfl rfl ?_
  refine sq_gy rfl rfl rfl ?_
  refine sqM rfl rfl ?_
  refine sq_gy rfl rfl rfl ?_
  refine sq_split (q_geq rfl rfl) rfl (fun h75_5 => ?_) (fun h75_5 => ?_)
  ·
   have hbad : ¬ Good bs := fun hg => by have h9 := hg.head.nm; omega
   refine sqT rfl rfl rfl ?_
   refine sqK [0, 4, 8, 9, 10, 11, 12, 13, 14, 15, 16, 397] rfl ?_
   refine sc_cond_t rfl ?_
   refine scR ?_
   refine sqM rfl rfl ?_
   refine sq_q (q_iface rfl Tryd.runUnderlying3 rfl) rfl ?_
   refine sq_q (q_build (vs := [(0, _), (1, _), (2, _)]) ⟨rfl, rfl, rfl, rfl, rfl, rfl, trivial⟩ b139) rfl ?_
   refine sq_m (m_box rfl rfl) rfl (fun _ _ => ?_)
   refine sq_q (q_iface rfl Tryd.runUnderlying137 rfl) rfl ?_
   iterate 2 refine sqA rfl rfl ?_
   refine sqK [2, 3] rfl ?_
   refine sc_ret ?_
   refine se_then_ret ?_
   exact se_end (res2 Tryd.results22 rfl rfl) (fun w' hw => .inl ⟨hbad, ⟨_, _, _, rfl⟩, hw.eff⟩)
  refine sqT rfl rfl rfl ?_
  refine sqK [0, 4, 8, 9, 10, 11, 12, 13, 14, 15, 16, 397] rfl ?_
  refine sc_cond_f rfl ?_
  refine scS ?_
  refine scK [0, 4, 8, 9, 10, 11, 12, 13, 14, 15, 16] rfl ?_
  refine scR ?_
  iterate 2 refine sqA rfl rfl ?_
  refine sqZ ?_
  refine sc_seq ?_
  refine scR ?_
  refine sqM rfl rfl ?_
  refine sq_q (q_nil rfl) rfl ?_
  refine sq_q (q_fieldj (j := 0) rfl Tryd.runUnderlying72 rfl Tryd.sizeOf66 rfl) rfl ?_
  refine sq_q (q_fieldj (j := 0) rfl Tryd.runUnderlying66 rfl Tryd.sizeOf57 rfl) rfl ?_
  refine sq_q (q_load1 rfl Tryd.isAgg57 (i := 0) rfl rfl) rfl ?_
  refine sqK [0, 4, 8, 9, 10, 11, 12, 13, 14, 15, 16, 25, 26, 407] rfl ?_
  refine sc_block ?_
  refine scR ?_
  refine sq_q (q_decT (q_eql rfl rfl) (by omega)) rfl ?_
  refine sqA rfl rfl ?_
  refine sqK [0, 4, 8, 9, 10, 11, 12, 13, 14, 15, 16, 25, 26, 407, 408] rfl ?_
  refine sc_cond_t rfl ?_
  refine scR ?_
  refine sqA rfl rfl ?_
  refine sqK [0, 4, 8, 9, 10, 11, 12, 13, 14, 15, 16, 25] rfl ?_
  refine sc_region ?_
  refine sqA rfl rfl ?_
  refine sq_nil ?_
  refine se_block ?_
  refine se_seq ?_
  refine sc_seq ?_
  refine scR ?_
  refine sqM rfl rfl ?_
  refine sq_split (q_gtr rfl rfl) rfl (fun h85_1 => ?_) (fun h85_1 => ?_)
  ·
   have _tok := trivial
   refine sqM rfl rfl ?_
   refine sq_gy rfl rfl rfl ?_
   refine sqM rfl rfl ?_
   refine sq_gy rfl rfl rfl ?_
   refine sqM rfl rfl ?_
   refine sq_gy rfl rfl rfl ?_
   refine sq_split (q_lss rfl rfl) rfl (fun h85_5 => ?_) (fun h85_5 => ?_)
   ·
    have hbad : ¬ Good bs := fun hg => by have h9 := hg.head.phe; rw [hwd, show wd false 32 56 = 32 from rfl] at h9; omega
    refine sqT rfl rfl rfl ?_
    refine sqK [0, 4, 8, 9, 10, 11, 12, 13, 14, 15, 16, 26, 418] rfl ?_
    refine sc_cond_t rfl ?_
    refine scR ?_
    refine sqM rfl rfl ?_
    refine sq_q (q_iface rfl Tryd.runUnderlying3 rfl) rfl ?_
    refine sq_q (q_build (vs := [(0, _), (1, _), (2, _)]) ⟨rfl, rfl, rfl, rfl, rfl, rfl, trivial⟩ b139) rfl ?_
    refine sq_m (m_box rfl rfl) rfl (fun _ _ => ?_)
    refine sq_q (q_iface rfl Tryd.runUnderlying137 rfl) rfl ?_
    iterate 2 refine sqA rfl rfl ?_
    refine sqK [2, 3] rfl ?_
    refine sc_ret ?_
    refine se_then_ret ?_
    exact se_end (res2 Tryd.results22 rfl rfl) (fun w' hw => .inl ⟨hbad, ⟨_, _, _, rfl⟩, hw.eff⟩)
   refine sqT rfl rfl rfl ?_
   refine sqK [0, 4, 8, 9, 10, 11, 12, 13, 14, 15, 16, 26, 418] rfl ?_
   refine sc_cond_f rfl ?_
   refine scS ?_
   iterate 2 refine scK [0, 4, 8, 9, 10, 11, 12, 13, 14, 15, 16, 26] rfl ?_
   exact hD _ _ _ _ _ ⟨hrd, hph, hsh, by omega, by omega, by rw [hwd]; show _ → 32 ≤ _; omega⟩ hbig hwd hfp hsb
  refine sqM rfl rfl ?_
  iterate 3 refine sq_gn rfl rfl rfl rfl ?_
  refine sqF rfl rfl rfl ?_
  refine sqK [0, 4, 8, 9, 10, 11, 12, 13, 14, 15, 16, 26, 418] rfl ?_
  refine sc_cond_f rfl ?_
  refine scS ?_
  iterate 2 refine scK [0, 4, 8, 9, 10, 11, 12, 13, 14, 15, 16, 26] rfl ?_
  exact hD _ _ _ _ _ ⟨hrd, hph, hsh, by omega, by omega, by rw [hwd]; show _ → 32 ≤ _; omega⟩ hbig hwd hfp hsb
 refine sqM rfl rfl ?_
 iterate 3 refine sq_gn rfl rfl rfl rfl ?_
 refine sqF rfl rfl rfl ?_
 refine sqK [0, 4, 8, 9, 10, 11, 12, 13, 14, 15, 16, 397] rfl ?_
 refine sc_cond_f rfl ?_
 refine scS ?_
 refine scK [0, 4, 8, 9, 10, 11, 12, 13, 14, 15, 16] rfl ?_
 refine scR ?_
 iterate 2 refine sqA rfl rfl ?_
 refine sqZ ?_
 refine sc_seq ?_
 refine scR ?_
 refine sqM rfl rfl ?_
 refine sq_q (q_nil rfl) rfl ?_
 refine sq_q (q_fieldj (j := 0) rfl Tryd.runUnderlying72 rfl Tryd.sizeOf66 rfl) rfl ?_
 refine sq_q (q_fieldj (j := 0) rfl Tryd.runUnderlying66 rfl Tryd.sizeOf57 rfl) rfl ?_
 refine sq_q (q_load1 rfl Tryd.isAgg57 (i := 0) rfl rfl) rfl ?_
 refine sqK [0, 4, 8, 9, 10, 11, 12, 13, 14, 15, 16, 25, 26, 407] rfl ?_
 refine sc_block ?_
 refine scR ?_
 refine sq_q (q_decT (q_eql rfl rfl) (by omega)) rfl ?_
 refine sqA rfl rfl ?_
 refine sqK [0, 4, 8, 9, 10, 11, 12, 13, 14, 15, 16, 25, 26, 407, 408] rfl ?_
 refine sc_cond_t rfl ?_
 refine scR ?_
 refine sqA rfl rfl ?_
 refine sqK [0, 4, 8, 9, 10, 11, 12, 13, 14, 15, 16, 25] rfl ?_
 refine sc_region ?_
 refine sqA rfl rfl ?_
 refine sq_nil ?_
 refine se_block ?_
 refine se_seq ?_
 refine sc_seq ?_
 refine scR ?_
 refine sqM rfl rfl ?_
 refine sq_split (q_gtr rfl rfl) rfl (fun h85_1 => ?_) (fun h85_1 => ?_)
 ·
  have _tok := trivial
  refine sqM rfl rfl ?_
  refine sq_gy rfl rfl rfl ?_
  refine sqM rfl rfl ?_
  refine sq_gy rfl rfl rfl ?_
  refine sqM rfl rfl ?_
  refine sq_gy rfl rfl rfl ?_
  refine sq_split (q_lss rfl rfl) rfl (fun h85_5 => ?_) (fun h85_5 => ?_)
  ·
   have hbad : ¬ Good bs := fun hg => by have h9 := hg.head.phe; rw [hwd, show wd false 32 56 = 32 from rfl] at h9; omega
   refine sqT rfl rfl rfl ?_
   refine sqK [0, 4, 8, 9, 10, 11, 12, 13, 14, 15, 16, 26, 418] rfl ?_
   refine sc_cond_t rfl ?_
   refine scR ?_
   refine sqM rfl rfl ?_
   refine sq_q (q_iface rfl Tryd.runUnderlying3 rfl) rfl ?_
   refine sq_q (q_build (vs := [(0, _), (1, _), (2, _)]) ⟨rfl, rfl, rfl, rfl, rfl, rfl, trivial⟩ b139) rfl ?_
   refine sq_m (m_box rfl rfl) rfl (fun _ _ => ?_)
   refine sq_q (q_iface rfl Tryd.runUnderlying137 rfl) rfl ?_
   iterate 2 refine sqA rfl rfl ?_
   refine sqK [2, 3] rfl ?_
   refine sc_ret ?_
   refine se_then_ret ?_
   exact se_end (res2 Tryd.results22 rfl rfl) (fun w' hw => .inl ⟨hbad, ⟨_, _, _, rfl⟩, hw.eff⟩)
  refine sqT rfl rfl rfl ?_
  refine sqK [0, 4, 8, 9, 10, 11, 12, 13, 14, 15, 16, 26, 418] rfl ?_
  refine sc_cond_f rfl ?_
  refine scS ?_
  iterate 2 refine scK [0, 4, 8, 9, 10, 11, 12, 13, 14, 15, 16, 26] rfl ?_
  exact hD _ _ _ _ _ ⟨hrd, hph, hsh, by omega, by omega, by rw [hwd]; show _ → 32 ≤ _; omega⟩ hbig hwd hfp hsb
 refine sqM rfl rfl ?_
 iterate 3 refine sq_gn rfl rfl rfl rfl ?_
 refine sqF rfl rfl rfl ?_
 refine sqK [0, 4, 8, 9, 10, 11, 12, 13, 14, 15, 16, 26, 418] rfl ?_
 refine sc_cond_f rfl ?_
 refine scS ?_
 iterate 2 refine scK [0, 4, 8, 9, 10, 11, 12, 13, 14, 15, 16, 26] rfl ?_
 exact hD _ _ _ _ _ ⟨hrd, hph, hsh, by omega, by omega, by rw [hwd]; show _ → 32 ≤ _; omega⟩ hbig hwd hfp hsb

theorem nf_c_true {g gu : Gx} {bs : List UInt8} {u : Value} {ms : MM} {w0 : World} (cx : Cx g gu bs u ms w0) (hD : StD g gu bs u ms w0) (hwd : isWide bs = true) : StC g gu bs u ms w0 := by
 intro big fp sb N hrd hbig hfp hsb
 have c4 : bv bs 4 = 2 := by have := hrd.id.cls; simp [isWide] at hwd; omega
 obtain ⟨hl1, hl2, hl3, hl4, hl5, hl6, hl7, hl8, hl9, hl10, hl11⟩ := hd_lt bs
 have e10 : (IntKind.i64.wrap ((hd bs).phoff : Int) < 0 ∧ ¬ (hd bs).phoff < 9223372036854775808) ∨ (IntKind.i64.wrap ((hd bs).phoff : Int) = (hd bs).phoff ∧ (hd bs).phoff < 9223372036854775808) := by rw [IntKind.wrap_i64]; omega
 have e13 : (IntKind.i64.wrap ((hd bs).shoff : Int) < 0 ∧ ¬ (hd bs).shoff < 9223372036854775808) ∨ (IntKind.i64.wrap ((hd bs).shoff : Int) = (hd bs).shoff ∧ (hd bs).shoff < 9223372036854775808) := by rw [IntKind.wrap_i64]; omega
 generalize IntKind.i64.wrap ((hd bs).phoff : Int) = x10 at *
 generalize IntKind.i64.wrap ((hd bs).shoff : Int) = x13 at *
 refine sc_seq ?_
 refine scR ?_
 refine sqM rfl rfl ?_
 refine sq_split (q_lss rfl rfl) rfl (fun h69_1 => ?_) (fun h69_1 => ?_)
 ·
  have hbad : ¬ Good bs := fun hg => by have h9 := hg.head.sh; omega
  refine sqK [0, 4, 8, 9, 10, 11, 12, 13, 14, 15, 16, 367] rfl ?_
  refine sc_cond_t rfl ?_
  refine scR ?_
  refine sqM rfl rfl ?_
  refine sq_q (q_iface rfl Tryd.runUnderlying2 rfl) rfl ?_
  refine sq_q (q_build (vs := [(0, _), (1, _), (2, _)]) ⟨rfl, rfl, rfl, rfl, rfl, rfl, trivial⟩ b139) rfl ?_
  refine sq_m (m_box rfl rfl) rfl (fun _ _ => ?_)
  refine sq_q (q_iface rfl Tryd.runUnderlying137 rfl) rfl ?_
  iterate 2 refine sqA rfl rfl ?_
  refine sqK [2, 3] rfl ?_
  refine sc_ret ?_
  refine se_then_ret ?_
  exact se_end (res2 Tryd.results22 rfl rfl) (fun w' hw => .inl ⟨hbad, ⟨_, _, _, rfl⟩, hw.eff⟩)
 obtain rfl : x13 = ((hd bs).shoff : Int) := by omega
 have hsh : (hd bs).shoff < 9223372036854775808 := by omega
 refine sqK [0, 4, 8, 9, 10, 11, 12, 13, 14, 15, 16, 367] rfl ?_
 refine sc_cond_f rfl ?_
 refine scS ?_
 refine scK [0, 4, 8, 9, 10, 11, 12, 13, 14, 15, 16] rfl ?_
 refine sc_seq ?_
 refine scR ?_
 refine sqM rfl rfl ?_
 refine sq_split (q_lss rfl rfl) rfl (fun h71_1 => ?_) (fun h71_1 => ?_)
 ·
  have hbad : ¬ Good bs := fun hg => by have h9 := hg.head.ph; omega
  refine sqK [0, 4, 8, 9, 10, 11, 12, 13, 14, 15, 16, 374] rfl ?_
  refine sc_cond_t rfl ?_
  refine scR ?_
  refine sqM rfl rfl ?_
  refine sq_q (q_iface rfl Tryd.runUnderlying2 rfl) rfl ?_
  refine sq_q (q_build (vs := [(0, _), (1, _), (2, _)]) ⟨rfl, rfl, rfl, rfl, rfl, rfl, trivial⟩ b139) rfl ?_
  refine sq_m (m_box rfl rfl) rfl (fun _ _ => ?_)
  refine sq_q (q_iface rfl Tryd.runUnderlying137 rfl) rfl ?_
  iterate 2 refine sqA rfl rfl ?_
  refine sqK [2, 3] rfl ?_
  refine sc_ret ?_
  refine se_then_ret ?_
  exact se_end (res2 Tryd.results22 rfl rfl) (fun w' hw => .inl ⟨hbad, ⟨_, _, _, rfl⟩, hw.eff⟩)
 obtain rfl : x10 = ((hd bs).phoff : Int) := by omega
 have hph : (hd bs).phoff < 9223372036854775808 := by omega
 refine sqK [0, 4, 8, 9, 10, 11, 12, 13, 14, 15, 16, 374] rfl ?_
 refine sc_cond_f rfl ?_
 refine scS ?_
 refine scK [0, 4, 8, 9, 10, 11, 12, 13, 14, 15, 16] rfl ?_
 refine sc_seq ?_
 refine scR ?_
 refine sqM rfl rfl ?_
 refine sq_split (q_eql rfl rfl) rfl (fun h73_1 => ?_) (fun h73_1 => ?_)
 ·
  have _tok := trivial
  refine sqM rfl rfl ?_
  refine sq_gy rfl rfl rfl ?_
  refine sqM rfl rfl ?_
  refine sq_gy rfl rfl rfl ?_
  refine sq_split (q_neq rfl rfl) rfl (fun h73_4 => ?_) (fun h73_4 => ?_)
  ·
   have hbad : ¬ Good bs := fun hg => by have h9 := hg.head.zero; omega
   refine sqT rfl rfl rfl ?_
   refine sqK [0, 4, 8, 9, 10, 11, 12, 13, 14, 15, 16, 385] rfl ?_
   refine sc_cond_t rfl ?_
   refine scR ?_
   refine sqM rfl rfl ?_
   refine sq_q (q_iface rfl Tryd.runUnderlying3 rfl) rfl ?_
   refine sq_q (q_build (vs := [(0, _), (1, _), (2, _)]) ⟨rfl, rfl, rfl, rfl, rfl, rfl, trivial⟩ b139) rfl ?_
   refine sq_m (m_box rfl rfl) rfl (fun _ _ => ?_)
   refine sq_q (q_iface rfl Tryd.runUnderlying137 rfl) rfl ?_
   iterate 2 refine sqA rfl rfl ?_
   refine sqK [2, 3] rfl ?_
   refine sc_ret ?_
   refine se_then_ret ?_
   exact se_end (res2 Tryd.results22 rfl rfl) (fun w' hw => .inl ⟨hbad, ⟨_, _, _, rfl⟩, hw.eff⟩)
  refine sqT rfl rfl rfl ?_
  refine sqK [0, 4, 8, 9, 10, 11, 12, 13, 14, 15, 16, 385] rfl ?_
  refine sc_cond_f rfl ?_
  refine scS ?_
  refine scK [0, 4, 8, 9, 10, 11, 12, 13, 14, 15, 16] rfl ?_
  refine sc_seq ?_
  refine scR ?_
  refine sqM rfl rfl ?_
  refine sq_split (q_gtr rfl rfl) rfl (fun h75_1 => ?_) (fun h75_1 => ?_)
  ·
   have _tok := trivial
   refine sqM rfl rfl ?_
   refine sq_gy rfl rfl rfl ?_
   refine sqM rfl rfl ?_
   refine sq_gy rfl rfl rfl ?_
   refine sqM rfl rfl ?_
   refine sq_gy rfl rfl rfl ?_
   refine sq_split (q_geq rfl rfl) rfl (fun h75_5 => ?_) (fun h75_5 => ?_)
   ·
    have hbad : ¬ Good bs := fun hg => by have h9 := hg.head.nm; omega
    refine sqT rfl rfl rfl ?_
    refine sqK [0, 4, 8, 9, 10, 11, 12, 13, 14, 15, 16, 397] rfl ?_
    refine sc_cond_t rfl ?_
    refine scR ?_
    refine sqM rfl rfl ?_
    refine sq_q (q_iface rfl Tryd.runUnderlying3 rfl) rfl ?_
    refine sq_q (q_build (vs := [(0, _), (1, _), (2, _)]) ⟨rfl, rfl, rfl, rfl, rfl, rfl, trivial⟩ b139) rfl ?_
    refine sq_m (m_box rfl rfl) rfl (fun _ _ => ?_)
    refine sq_q (q_iface rfl Tryd.runUnderlying137 rfl) rfl ?_
    iterate 2 refine sqA rfl rfl ?_
    refine sqK [2, 3] rfl ?_
    refine sc_ret ?_
    refine se_then_ret ?_
    exact se_end (res2 Tryd.results22 rfl rfl) (fun w' hw => .inl ⟨hbad, ⟨_, _, _, rfl⟩, hw.eff⟩)
   refine sqT rfl rfl rfl ?_
   refine sqK [0, 4, 8, 9, 10, 11, 12, 13, 14, 15, 16, 397] rfl ?_
   refine sc_cond_f rfl ?_
   refine scS ?_
   refine scK [0, 4, 8, 9, 10, 11, 12, 13, 14, 15, 16] rfl ?_
   refine scR ?_
   iterate 2 refine sqA rfl rfl ?_
   refine sqZ ?_
   refine sc_seq ?_
   refine scR ?_
   refine sqM rfl rfl ?_
   refine sq_q (q_nil rfl) rfl ?_
   refine sq_q (q_fieldj (j := 0) rfl Tryd.runUnderlying72 rfl Tryd.sizeOf66 rfl) rfl ?_
   refine sq_q (q_fieldj (j := 0) rfl Tryd.runUnderlying66 rfl Tryd.sizeOf57 rfl) rfl ?_
   refine sq_q (q_load1 rfl Tryd.isAgg57 (i := 0) rfl rfl) rfl ?_
   refine sqK [0, 4, 8, 9, 10, 11, 12, 13, 14, 15, 16, 25, 26, 407] rfl ?_
   refine sc_block ?_
   refine scR ?_
   refine sq_q (q_decF (q_eql rfl rfl) (by omega)) rfl ?_
   refine sqA rfl rfl ?_
   refine sqK [0, 4, 8, 9, 10, 11, 12, 13, 14, 15, 16, 25, 26, 407, 408] rfl ?_
   refine sc_cond_f rfl ?_
   refine scR ?_
   refine sq_q (q_decT (q_eql rfl rfl) (by omega)) rfl ?_
   refine sqA rfl rfl ?_
   refine sqK [0, 4, 8, 9, 10, 11, 12, 13, 14, 15, 16, 25, 26, 410] rfl ?_
   refine sc_cond_t rfl ?_
   refine scR ?_
   refine sqA rfl rfl ?_
   refine sqK [0, 4, 8, 9, 10, 11, 12, 13, 14, 15, 16, 25] rfl ?_
   refine sc_region ?_
   refine sqA rfl rfl ?_
   refine sq_nil ?_
   refine se_block ?_
   refine se_seq ?_
   refine sc_seq ?_
   refine scR ?_
   refine sqM rfl rfl ?_
   refine sq_split (q_gtr rfl rfl) rfl (fun h85_1 => ?_) (fun h85_1 => ?_)
   ·
    have _tok := trivial
    refine sqM rfl rfl ?_
    refine sq_gy rfl rfl rfl ?_
    refine sqM rfl rfl ?_
    refine sq_gy rfl rfl rfl ?_
    refine sqM rfl rfl ?_
    refine sq_gy rfl rfl rfl ?_
    refine sq_split (q_lss rfl rfl) rfl (fun h85_5 => ?_) (fun h85_5 => ?_)
    ·
     have hbad : ¬ Good bs := fun hg => by have h9 := hg.head.phe; rw [hwd, show wd true 32 56 = 56 from rfl] at h9; omega
     refine sqT rfl rfl rfl ?_
     refine sqK [0, 4, 8, 9, 10, 11, 12, 13, 14, 15, 16, 26, 418] rfl ?_
     refine sc_cond_t rfl ?_
     refine scR ?_
     refine sqM rfl rfl ?_
     refine sq_q (q_iface rfl Tryd.runUnderlying3 rfl) rfl ?_
     refine sq_q (q_build (vs := [(0, _), (1, _), (2, _)]) ⟨rfl, rfl, rfl, rfl, rfl, rfl, trivial⟩ b139) rfl ?_
     refine sq_m (m_box rfl rfl) rfl (fun _ _ => ?_)
     refine sq_q (q_iface rfl Tryd.runUnderlying137 rfl) rfl ?_
     iterate 2 refine sqA rfl rfl ?_
     refine sqK [2, 3] rfl ?_
     refine sc_ret ?_
     refine se_then_ret ?_
     exact se_end (res2 Tryd.results22 rfl rfl) (fun w' hw => .inl ⟨hbad, ⟨_, _, _, rfl⟩, hw.eff⟩)
    refine sqT rfl rfl rfl ?_
    refine sqK [0, 4, 8, 9, 10, 11, 12, 13, 14, 15, 16, 26, 418] rfl ?_
    refine sc_cond_f rfl ?_
    refine scS ?_
    iterate 2 refine scK [0, 4, 8, 9, 10, 11, 12, 13, 14, 15, 16, 26] rfl ?_
    exact hD _ _ _ _ _ ⟨hrd, hph, hsh, by omega, by omega, by rw [hwd]; show _ → 56 ≤ _; omega⟩ hbig hwd hfp hsb
   refine sqM rfl rfl ?_
   iterate 3 refine sq_gn rfl rfl rfl rfl ?_
   refine sqF rfl rfl rfl ?_
   refine sqK [0, 4, 8, 9, 10, 11, 12, 13, 14, 15, 16, 26, 418] rfl ?_
   refine sc_cond_f rfl ?_
   refine scS ?_
   iterate 2 refine scK [0, 4, 8, 9, 10, 11, 12, 13, 14, 15, 16, 26] rfl ?_
   exact hD _ _ _ _ _ ⟨hrd, hph, hsh, by omega, by omega, by rw [hwd]; show _ → 56 ≤ _; omega⟩ hbig hwd hfp hsb
  refine sqM rfl rfl ?_
  iterate 3 refine sq_gn rfl rfl rfl rfl ?_
  refine sqF rfl rfl rfl ?_
  refine sqK [0, 4, 8, 9, 10, 11, 12, 13, 14, 15, 16, 397] rfl ?_
  refine sc_cond_f rfl ?_
  refine scS ?_
  refine scK [0, 4, 8, 9, 10, 11, 12, 13, 14, 15, 16] rfl ?_
  refine scR ?_
  iterate 2 refine sqA rfl rfl ?_
  refine sqZ ?_
  refine sc_seq ?_
  refine scR ?_
  refine sqM rfl rfl ?_
  refine sq_q (q_nil rfl) rfl ?_
  refine sq_q (q_fieldj (j := 0) rfl Tryd.runUnderlying72 rfl Tryd.sizeOf66 rfl) rfl ?_
  refine sq_q (q_fieldj (j := 0) rfl Tryd.runUnderlying66 rfl Tryd.sizeOf57 rfl) rfl ?_
  refine sq_q (q_load1 rfl Tryd.isAgg57 (i := 0) rfl rfl) rfl ?_
  refine sqK [0, 4, 8, 9, 10, 11, 12, 13, 14, 15, 16, 25, 26, 407] rfl ?_
  refine sc_block ?_
  refine scR ?_
  refine sq_q (q_decF (q_eql rfl rfl) (by omega)) rfl ?_
  refine sqA rfl rfl ?_
  refine sqK [0, 4, 8, 9, 10, 11, 12, 13, 14, 15, 16, 25, 26, 407, 408] rfl ?_
  refine sc_cond_f rfl ?_
  refine scR ?_
  refine sq_q (q_decT (q_eql rfl rfl) (by omega)) rfl ?_
  refine sqA rfl rfl ?_
  refine sqK [0, 4, 8, 9, 10, 11, 12, 13, 14, 15, 16, 25, 26, 410] rfl ?_
  refine sc_cond_t rfl ?_
  refine scR ?_
  refine sqA rfl rfl ?_
  refine sqK [0, 4, 8, 9, 10, 11, 12, 13, 14, 15, 16, 25] rfl ?_
  refine sc_region ?_
  refine sqA rfl rfl ?_
  refine sq_nil ?_
  refine se_block ?_
  refine se_seq ?_
  refine sc_seq ?_
  refine scR ?_
  refine sqM rfl rfl ?_
  refine sq_split (q_gtr rfl rfl) rfl (fun h85_1 => ?_) (fun h85_1 => ?_)
  ·
   have _tok := trivial
   refine sqM rfl rfl ?_
   refine sq_gy rfl rfl rfl ?_
   refine sqM rfl rfl ?_
   refine sq_gy rfl rfl rfl ?_
   refine sqM rfl rfl ?_
   refine sq_gy rfl rfl rfl ?_
   refine sq_split (q_lss rfl rfl) rfl (fun h85_5 => ?_) (fun h85_5 => ?_)
   ·
    have hbad : ¬ Good bs := fun hg => by have h9 := hg.head.phe; rw [hwd, show wd true 32 56 = 56 from rfl] at h9; omega
    refine sqT rfl rfl rfl ?_
    refine sqK [0, 4, 8, 9, 10, 11, 12, 13, 14, 15, 16, 26, 418] rfl ?_
    refine sc_cond_t rfl ?_
    refine scR ?_
    refine sqM rfl rfl ?_
    refine sq_q (q_iface rfl Tryd.runUnderlying3 rfl) rfl ?_
    refine sq_q (q_build (vs := [(0, _), (1, _), (2, _)]) ⟨rfl, rfl, rfl, rfl, rfl, rfl, trivial⟩ b139) rfl ?_
    refine sq_m (m_box rfl rfl) rfl (fun _ _ => ?_)
    refine sq_q (q_iface rfl Tryd.runUnderlying137 rfl) rfl ?_
    iterate 2 refine sqA rfl rfl ?_
    refine sqK [2, 3] rfl ?_
    refine sc_ret ?_
    refine se_then_ret ?_
    exact se_end (res2 Tryd.results22 rfl rfl) (fun w' hw => .inl ⟨hbad, ⟨_, _, _, rfl⟩, hw.eff⟩)
   refine sqT rfl rfl rfl ?_
   refine sqK [0, 4, 8, 9, 10, 11, 12, 13, 14, 15, 16, 26, 418] rfl ?_
   refine sc_cond_f rfl ?_
   refine scS ?_
   iterate 2 refine scK [0, 4, 8, 9, 10, 11, 12, 13, 14, 15, 16, 26] rfl ?_
   exact hD _ _ _ _ _ ⟨hrd, hph, hsh, by omega, by omega, by rw [hwd]; show _ → 56 ≤ _; omega⟩ hbig hwd hfp hsb
  refine sqM rfl rfl ?_
  iterate 3 refine sq_gn rfl rfl rfl rfl ?_
  refine sqF rfl rfl rfl ?_
  refine sqK [0, 4, 8, 9, 10, 11, 12, 13, 14, 15, 16, 26, 418] rfl ?_
  refine sc_cond_f rfl ?_
  refine scS ?_
  iterate 2 refine scK [0, 4, 8, 9, 10, 11, 12, 13, 14, 15, 16, 26] rfl ?_
  exact hD _ _ _ _ _ ⟨hrd, hph, hsh, by omega, by omega, by rw [hwd]; show _ → 56 ≤ _; omega⟩ hbig hwd hfp hsb
 refine sqM rfl rfl ?_
 iterate 2 refine sq_gn rfl rfl rfl rfl ?_
 refine sqF rfl rfl rfl ?_
 refine sqK [0, 4, 8, 9, 10, 11, 12, 13, 14, 15, 16, 385] rfl ?_
 refine sc_cond_f rfl ?_
 refine scS ?_
 refine scK [0, 4, 8, 9, 10, 11, 12, 13, 14, 15, 16] rfl ?_
 refine sc_seq ?_
 refine scR ?_
 refine sqM rfl rfl ?_
 refine sq_split (q_gtr rfl rfl) rfl (fun h75_1 => ?_) (fun h75_1 => ?_)
 ·
  have _tok := trivial
  refine sqM rfl rfl ?_
  refine sq_gy rfl rfl rfl ?_
  refine sqM rfl rfl ?_
  refine sq_gy rfl rfl rfl ?_
  refine sqM rfl rfl ?_
  refine sq_gy rfl rfl rfl ?_
  refine sq_split (q_geq rfl rfl) rfl (fun h75_5 => ?_) (fun h75_5 => ?_)
  ·
   have hbad : ¬ Good bs := fun hg => by have h9 := hg.head.nm; omega
   refine sqT rfl rfl rfl ?_
   refine sqK [0, 4, 8, 9, 10, 11, 12, 13, 14, 15, 16, 397] rfl ?_
   refine sc_cond_t rfl ?_
   refine scR ?_
   refine sqM rfl rfl ?_
   refine sq_q (q_iface rfl Tryd.runUnderlying3 rfl) rfl ?_
   refine sq_q (q_build (vs := [(0, _), (1, _), (2, _)]) ⟨rfl, rfl, rfl, rfl, rfl, rfl, trivial⟩ b139) rfl ?_
   refine sq_m (m_box rfl rfl) rfl (fun _ _ => ?_)
   refine sq_q (q_iface rfl Tryd.runUnderlying137 rfl) rfl ?_
   iterate 2 refine sqA rfl rfl ?_
   refine sqK [2, 3] rfl ?_
   refine sc_ret ?_
   refine se_then_ret ?_
   exact se_end (res2 Tryd.results22 rfl rfl) (fun w' hw => .inl ⟨hbad, ⟨_, _, _, rfl⟩, hw.eff⟩)
  refine sqT rfl rfl rfl ?_
  refine sqK [0, 4, 8, 9, 10, 11, 12, 13, 14, 15, 16, 397] rfl ?_
  refine sc_cond_f rfl ?_
  refine scS ?_
  refine scK [0, 4, 8, 9, 10, 11, 12, 13, 14, 15, 16] rfl ?_
  refine scR ?_
  iterate 2 refine sqA rfl rfl ?_
  refine sqZ ?_
  refine sc_seq ?_
  refine scR ?_
  refine sqM rfl rfl ?_
  refine sq_q (q_nil rfl) rfl ?_
  refine sq_q (q_fieldj (j := 0) rfl Tryd.runUnderlying72 rfl Tryd.sizeOf66 rfl) rfl ?_
  refine sq_q (q_fieldj (j := 0) rfl Tryd.runUnderlying66 rfl Tryd.sizeOf57 rfl) rfl ?_
  refine sq_q (q_load1 rfl Tryd.isAgg57 (i := 0) rfl rfl) rfl ?_
  refine sqK [0, 4, 8, 9, 10, 11, 12, 13, 14, 15, 16, 25, 26, 407] rfl ?_
  refine sc_block ?_
  refine scR ?_
  refine sq_q (q_decF (q_eql rfl rfl) (by omega)) rfl ?_
  refine sqA rfl rfl ?_
  refine sqK [0, 4, 8, 9, 10, 11, 12, 13, 14, 15, 16, 25, 26, 407, 408] rfl ?_
  refine sc_cond_f rfl ?_
  refine scR ?_
  refine sq_q (q_decT (q_eql rfl rfl) (by omega)) rfl ?_
  refine sqA rfl rfl ?_
  refine sqK [0, 4, 8, 9, 10, 11, 12, 13, 14, 15, 16, 25, 26, 410] rfl ?_
  refine sc_cond_t rfl ?_
  refine scR ?_
  refine sqA rfl rfl ?_
  refine sqK [0, 4, 8, 9, 10, 11, 12, 13, 14, 15, 16, 25] rfl ?_
  refine sc_region ?_
  refine sqA rfl rfl ?_
  refine sq_nil ?_
  refine se_block ?_
  refine se_seq ?_
  refine sc_seq ?_
  refine scR ?_
  refine sqM rfl rfl ?_
  refine sq_split (q_gtr rfl rfl) rfl (fun h85_1 => ?_) (fun h85_1 => ?_)
  ·
   have _tok := trivial
   refine sqM rfl rfl ?_
   refine sq_gy rfl rfl rfl ?_
   refine sqM rfl rfl ?_
   refine sq_gy rfl rfl rfl ?_
   refine sqM rfl rfl ?_
   refine sq_gy rfl rfl rfl ?_
   refine sq_split (q_lss rfl rfl) rfl (fun h85_5 => ?_) (fun h85_5 => ?_)
   ·
    have hbad : ¬ Good bs := fun hg => by have h9 := hg.head.phe; rw [hwd, show wd true 32 56 = 56 from rfl] at h9; omega
    refine sqT rfl rfl rfl ?_
    refine sqK [0, 4, 8, 9, 10, 11, 12, 13, 14, 15, 16, 26, 418] rfl ?_
    refine sc_cond_t rfl ?_
    refine scR ?_
    refine sqM rfl rfl ?_
    refine sq_q (q_iface rfl Tryd.runUnderlying3 rfl) rfl ?_
    refine sq_q (q_build (vs := [(0, _), (1, _), (2, _)]) ⟨rfl, rfl, rfl, rfl, rfl, rfl, trivial⟩ b139) rfl ?_
    refine sq_m (m_box rfl rfl) rfl (fun _ _ => ?_)
    refine sq_q (q_iface rfl Tryd.runUnderlying137 rfl) rfl ?_
    iterate 2 refine sqA rfl rfl ?_
    refine sqK [2, 3] rfl ?_
    refine sc_ret ?_
    refine se_then_ret ?_
    exact se_end (res2 Tryd.results22 rfl rfl) (fun w' hw => .inl ⟨hbad, ⟨_, _, _, rfl⟩, hw.eff⟩)
   refine sqT rfl rfl rfl ?_
   refine sqK [0, 4, 8, 9, 10, 11, 12, 13, 14, 15, 16, 26, 418] rfl ?_
   refine sc_cond_f rfl ?_
   refine scS ?_
   iterate 2 refine scK [0, 4, 8, 9, 10, 11, 12, 13, 14, 15, 16, 26] rfl ?_
   exact hD _ _ _ _ _ ⟨hrd, hph, hsh, by omega, by omega, by rw [hwd]; show _ → 56 ≤ _; omega⟩ hbig hwd hfp hsb
  refine sqM rfl rfl ?_
  iterate 3 refine sq_gn rfl rfl rfl rfl ?_
  refine sqF rfl rfl rfl ?_
  refine sqK [0, 4, 8, 9, 10, 11, 12, 13, 14, 15, 16, 26, 418] rfl ?_
  refine sc_cond_f rfl ?_
  refine scS ?_
  iterate 2 refine scK [0, 4, 8, 9, 10, 11, 12, 13, 14, 15, 16, 26] rfl ?_
  exact hD _ _ _ _ _ ⟨hrd, hph, hsh, by omega, by omega, by rw [hwd]; show _ → 56 ≤ _; omega⟩ hbig hwd hfp hsb
 refine sqM rfl rfl ?_
 iterate 3 refine sq_gn rfl rfl rfl rfl ?_
 refine sqF rfl rfl rfl ?_
 refine sqK [0, 4, 8, 9, 10, 11, 12, 13, 14, 15, 16, 397] rfl ?_
 refine sc_cond_f rfl ?_
 refine scS ?_
 refine scK [0, 4, 8, 9, 10, 11, 12, 13, 14, 15, 16] rfl ?_
 refine scR ?_
 iterate 2 refine sqA rfl rfl ?_
 refine sqZ ?_
 refine sc_seq ?_
 refine scR ?_
 refine sqM rfl rfl ?_
 refine sq_q (q_nil rfl) rfl ?_
 refine sq_q (q_fieldj (j := 0) rfl Tryd.runUnderlying72 rfl Tryd.sizeOf66 rfl) rfl ?_
 refine sq_q (q_fieldj (j := 0) rfl Tryd.runUnderlying66 rfl Tryd.sizeOf57 rfl) rfl ?_
 refine sq_q (q_load1 rfl Tryd.isAgg57 (i := 0) rfl rfl) rfl ?_
 refine sqK [0, 4, 8, 9, 10, 11, 12, 13, 14, 15, 16, 25, 26, 407] rfl ?_
 refine sc_block ?_
 refine scR ?_
 refine sq_q (q_decF (q_eql rfl rfl) (by omega)) rfl ?_
 refine sqA rfl rfl ?_
 refine sqK [0, 4, 8, 9, 10, 11, 12, 13, 14, 15, 16, 25, 26, 407, 408] rfl ?_
 refine sc_cond_f rfl ?_
 refine scR ?_
 refine sq_q (q_decT (q_eql rfl rfl) (by omega)) rfl ?_
 refine sqA rfl rfl ?_
 refine sqK [0, 4, 8, 9, 10, 11, 12, 13, 14, 15, 16, 25, 26, 410] rfl ?_
 refine sc_cond_t rfl ?_
 refine scR ?_
 refine sqA rfl rfl ?_
 refine sqK [0, 4, 8, 9, 10, 11, 12, 13, 14, 15, 16, 25] rfl ?_
 refine sc_region ?_
 refine sqA rfl rfl ?_
 refine sq_nil ?_
 refine se_block ?_
 refine se_seq ?_
 refine sc_seq ?_
 refine scR ?_
 refine sqM rfl rfl ?_
 refine sq_split (q_gtr rfl rfl) rfl (fun h85_1 => ?_) (fun h85_1 => ?_)
 ·
  have _tok := trivial
  refine sqM rfl rfl ?_
  refine sq_gy rfl rfl rfl ?_
  refine sqM rfl rfl ?_
  refine sq_gy rfl rfl rfl ?_
  refine sqM rfl rfl ?_
  refine sq_gy rfl rfl rfl ?_
  refine sq_split (q_lss rfl rfl) rfl (fun h85_5 => ?_) (fun h85_5 => ?_)
  ·
   have hbad : ¬ Good bs := fun hg => by have h9 := hg.head.phe; rw [hwd, show wd true 32 56 = 56 from rfl] at h9; omega
   refine sqT rfl rfl rfl ?_
   refine sqK [0, 4, 8, 9, 10, 11, 12, 13, 14, 15, 16, 26, 418] rfl ?_
   refine sc_cond_t rfl ?_
   refine scR ?_
   refine sqM rfl rfl ?_
   refine sq_q (q_iface rfl Tryd.runUnderlying3 rfl) rfl ?_
   refine sq_q (q_build (vs := [(0, _), (1, _), (2, _)]) ⟨rfl, rfl, rfl, rfl, rfl, rfl, trivial⟩ b139) rfl ?_
   refine sq_m (m_box rfl rfl) rfl (fun _ _ => ?_)
   refine sq_q (q_iface rfl Tryd.runUnderlying137 rfl) rfl ?_
   iterate 2 refine sqA rfl rfl ?_
   refine sqK [2, 3] rfl ?_
   refine sc_ret ?_
   refine se_then_ret ?_
   exact se_end (res2 Tryd.results22 rfl rfl) (fun w' hw => .inl ⟨hbad, ⟨_, _, _, rfl⟩, hw.eff⟩)
  refine sqT rfl rfl rfl ?_
  refine sqK [0, 4, 8, 9, 10, 11, 12, 13, 14, 15, 16, 26, 418] rfl ?_
  refine sc_cond_f rfl ?_
  refine scS ?_
  iterate 2 refine scK [0, 4, 8, 9, 10, 11, 12, 13, 14, 15, 16, 26] rfl ?_
  exact hD _ _ _ _ _ ⟨hrd, hph, hsh, by omega, by omega, by rw [hwd]; show _ → 56 ≤ _; omega⟩ hbig hwd hfp hsb
 refine sqM rfl rfl ?_
 iterate 3 refine sq_gn rfl rfl rfl rfl ?_
 refine sqF rfl rfl rfl ?_
 refine sqK [0, 4, 8, 9, 10, 11, 12, 13, 14, 15, 16, 26, 418] rfl ?_
 refine sc_cond_f rfl ?_
 refine scS ?_
 iterate 2 refine scK [0, 4, 8, 9, 10, 11, 12, 13, 14, 15, 16, 26] rfl ?_
 exact hD _ _ _ _ _ ⟨hrd, hph, hsh, by omega, by omega, by rw [hwd]; show _ → 56 ≤ _; omega⟩ hbig hwd hfp hsb

theorem nf_c {g gu : Gx} {bs : List UInt8} {u : Value} {ms : MM} {w0 : World} (cx : Cx g gu bs u ms w0) (hD : StD g gu bs u ms w0) : StC g gu bs u ms w0 := by
 cases hw : isWide bs
 ·
  exact nf_c_false cx hD hw
 ·
  exact nf_c_true cx hD hw

end Go.Proofs.YtgkjnkhoopcjgaaDoor
/- NewFile: extended numbers. Conditions: the bytes lie in memory, at most 8192 of them; the header's checks hold. -/
namespace Go.Proofs.YtgkjnkhoopcjgaaDoor
open Go.Sx
set_option maxRecDepth 100000
set_option maxHeartbeats 2000000

/-- The numbers behind the extension. -/
def Mode (bs : List UInt8) (phn : Nat) (shn nms : Int) : Prop :=
 (phn = (hd bs).phnum ∧ shn = (hd bs).shnum ∧ nms = (hd bs).names ∧ ((hd bs).shnum = 0 → (hd bs).shoff = 0)) ∨
  (¬ Good bs ∧ ((65535 ≤ phn ∧ 32 ≤ (hd bs).phes) ∨ (phn = (hd bs).phnum ∧ (shn < 0 ∨ 65280 ≤ shn))))

def StE (g gu : Gx) (bs : List UInt8) (u : Value) (ms : MM) (w0 : World) : Prop := ∀ big wide fp sb cur N phn shn nms, ChkOk bs → isBig bs = big → isWide bs = wide → w0.heap.size ≤ fp → w0.heap.size ≤ sb → phn < 4294967296 → -9223372036854775808 ≤ shn → shn ≤ 9223372036854775807 → -9223372036854775808 ≤ nms → nms ≤ 9223372036854775807 → Mode bs phn shn nms →
 Sc Tryd.prog r29 (bodyPost Tryd.prog Tryd.f22 (NF bs u ((1, g.o) :: (0, gu.o) :: ms) w0)) 1287 w0 E0 [(0, .iface 117 u), (4, .pointer (some ⟨sb, 0, none⟩)), (8, .pointer (some ⟨fp, 0, none⟩)), (9, .int .u8 (ordN big)), (10, .int .i64 ((hd bs).phoff : Int)), (11, .int .i64 ((hd bs).phes : Int)), (12, .int .i64 (phn : Int)), (13, .int .i64 ((hd bs).shoff : Int)), (14, .int .i64 ((hd bs).shes : Int)), (15, .int .i64 shn), (16, .int .i64 nms), (26, .int .i64 ((wd wide 40 64 : Nat) : Int))] N
  ((fp, fileO bs big (hd bs).type (hd bs).machine (hd bs).entry (.slice none 0 0) (.slice none 0 0)) :: (sb, srO (.iface 117 u) 0 cur (limOf 0 9223372036854775807) (.int .i64 (9223372036854775807 : Nat))) :: (1, g.o) :: (0, gu.o) :: ms)

structure sec32X where
 v : Value
 xs : List UInt8
 cur : Nat
 N : Nat
 mm : MM
/-- A table's first row, by a call. -/
theorem sec32_inv {g gu : Gx} {t : TypeId} {u : Value} {ms : MM} {R : Nat → Nat → List UInt8 → Value → Prop} (h : RC g t u ms R) (big : Bool) {w0 : World} {E : Nat → Prop} {fm : FM} {N : Nat} {x y z : Operand} {ts : Array TypeId} {fp sb pb cur lim : Nat} {nn : Value} {l0 : List Value} {fo : Obj} {e0 : TypeId}
  {d : Option Nat} {ty : TypeId} {pos : String} {after : Array Edge} {gd : Option (Nat × Bool)} (hlim : lim ≤ 9223372036854775807) (hcur : cur ≤ 9223372036854775807)
  (hfull : ∀ xs e, TR g R lim cur 40 xs e → e = .nilIface → xs.length = 40) (hnd : (((pb, Obj.cells l0.toArray e0 (0, 0)) :: (fp, fo) :: (sb, srO (.iface t u) 0 cur lim nn) :: (1, g.o) :: (0, gu.o) :: ms).map Prod.fst).Nodup) (hl0 : l0.length = 10) (hE : ∀ k, k = sb ∨ k = pb → k < w0.heap.size → E k)
  (hx : fm.ev x = some (.iface 81 (.pointer (some ⟨sb, 0, none⟩)))) (hy : fm.ev y = some (.int .u8 (ordN big))) (hz : fm.ev z = some (.pointer (some ⟨pb, 0, none⟩))) :
  Main Tryd.prog w0 E fm N ((pb, .cells l0.toArray e0 (0, 0)) :: (fp, fo) :: (sb, srO (.iface t u) 0 cur lim nn) :: (1, g.o) :: (0, gu.o) :: ms) ⟨d, .call { callee := .value (.func 38), args := #[x, y, z], argTypes := ts }, ty, pos, after, gd⟩ (fun q : sec32X => q.v) (fun q => q.N) (fun q => q.mm)
   (fun q => (q.xs.length = 40 ∧ q.v = .nilIface ∧ q.mm = (pb, .cells (sec32L big q.xs).toArray e0 (0, 0)) :: (sb, srO (.iface t u) 0 q.cur lim nn) :: (fp, fo) :: (1, g.o) :: (0, gu.o) :: ms) ∨ ((∃ t u, q.v = .iface t u) ∧ q.mm = [])) := by
 refine m_call (args3 hx hy hz) Tryd.call38 fun w hw => ?_
 have hnd0 : (((sb, srO (.iface t u) 0 cur lim nn) :: (pb, Obj.cells l0.toArray e0 (0, 0)) :: (1, g.o) :: (0, gu.o) :: ms).map Prod.fst).Nodup := by
  simp only [List.map_cons, List.nodup_cons, List.mem_cons, not_or] at hnd ⊢
  obtain ⟨⟨a1, a2, a3, a4, a5⟩, ⟨b1, b2, b3, b4⟩, ⟨c1, c2, c3⟩, d1, d2⟩ := hnd
  exact ⟨⟨Ne.symm a2, c1, c2, c3⟩, ⟨a3, a4, a5⟩, d1, d2⟩
 refine Calls.mono (sec32 (gu := gu) h big (sb := sb) (pb := pb) (base := 0) (cur := cur) (lim := lim) (nn := nn) (l0 := l0) (e0 := e0) hlim hcur hfull hnd0 (fun p hp => hw.has p (by simp only [List.mem_cons] at hp ⊢; rcases hp with hp | hp | hp | hp | hp <;> simp [hp])) hl0) fun en w' hp => ?_
 have hkeep : ∀ p ∈ (fp, fo) :: (1, g.o) :: (0, gu.o) :: ms, ¬ (p.1 = sb ∨ p.1 = pb) := by
  simp only [List.map_cons, List.nodup_cons, List.mem_cons, not_or] at hnd
  obtain ⟨⟨a1, a2, a3, a4, a5⟩, ⟨b1, b2, b3, b4⟩, ⟨c1, c2, c3⟩, d1, d2⟩ := hnd
  intro p hp hk
  simp only [List.mem_cons] at hp
  rcases hp with rfl | rfl | rfl | hp
  ·
   rcases hk with hk | hk
   ·
    exact b1 hk
   ·
    exact a1 hk.symm
  ·
   rcases hk with hk | hk
   ·
    exact c1 hk.symm
   ·
    exact a3 hk.symm
  ·
   rcases hk with hk | hk
   ·
    exact c2 hk.symm
   ·
    exact a4 hk.symm
  ·
   rcases hk with hk | hk
   ·
    exact c3 (hk ▸ List.mem_map_of_mem (f := Prod.fst) hp)
   ·
    exact a5 (hk ▸ List.mem_map_of_mem (f := Prod.fst) hp)
 rcases hp with ⟨xs, hxs, hen, he, h1, h2⟩ | ⟨⟨t2, u2, hen⟩, he⟩
 ·
  refine ⟨⟨.nilIface, xs, cur + xs.length, w'.heap.size, (pb, .cells (sec32L big xs).toArray e0 (0, 0)) :: (sb, srO (.iface t u) 0 (cur + xs.length) lim nn) :: (fp, fo) :: (1, g.o) :: (0, gu.o) :: ms⟩, .inl ⟨hxs, rfl, rfl⟩, hen, ?_⟩
  refine hw.call he hE ((fp, fo) :: (1, g.o) :: (0, gu.o) :: ms) [(pb, _), (sb, _)] (fun q hq => by simp only [List.mem_cons] at hq ⊢; rcases hq with hq | hq | hq | hq <;> simp [hq]) hkeep ?_ ?_
  ·
   intro q hq
   rcases List.mem_cons.1 hq with rfl | hq
   ·
    exact h2
   ·
    have := List.mem_singleton.1 hq; subst this; exact h1
  ·
   simp only [List.cons_append, List.nil_append, List.map_cons, List.nodup_cons, List.mem_cons, not_or] at hnd ⊢
   obtain ⟨⟨a1, a2, a3, a4, a5⟩, ⟨b1, b2, b3, b4⟩, ⟨c1, c2, c3⟩, d1, d2⟩ := hnd
   exact ⟨⟨a2, a1, a3, a4, a5⟩, ⟨Ne.symm b1, c1, c2, c3⟩, ⟨b2, b3, b4⟩, d1, d2⟩
 ·
  refine ⟨⟨_, [], 0, w'.heap.size, []⟩, .inr ⟨⟨t2, u2, rfl⟩, rfl⟩, hen, ?_⟩
  exact hw.call he hE [] [] (fun q hq => by cases hq) (fun q hq => by cases hq) (fun q hq => by cases hq) List.nodup_nil

structure sec64X where
 v : Value
 xs : List UInt8
 cur : Nat
 N : Nat
 mm : MM
/-- A table's first row, by a call. -/
theorem sec64_inv {g gu : Gx} {t : TypeId} {u : Value} {ms : MM} {R : Nat → Nat → List UInt8 → Value → Prop} (h : RC g t u ms R) (big : Bool) {w0 : World} {E : Nat → Prop} {fm : FM} {N : Nat} {x y z : Operand} {ts : Array TypeId} {fp sb pb cur lim : Nat} {nn : Value} {l0 : List Value} {fo : Obj} {e0 : TypeId}
  {d : Option Nat} {ty : TypeId} {pos : String} {after : Array Edge} {gd : Option (Nat × Bool)} (hlim : lim ≤ 9223372036854775807) (hcur : cur ≤ 9223372036854775807)
  (hfull : ∀ xs e, TR g R lim cur 64 xs e → e = .nilIface → xs.length = 64) (hnd : (((pb, Obj.cells l0.toArray e0 (0, 0)) :: (fp, fo) :: (sb, srO (.iface t u) 0 cur lim nn) :: (1, g.o) :: (0, gu.o) :: ms).map Prod.fst).Nodup) (hl0 : l0.length = 10) (hE : ∀ k, k = sb ∨ k = pb → k < w0.heap.size → E k)
  (hx : fm.ev x = some (.iface 81 (.pointer (some ⟨sb, 0, none⟩)))) (hy : fm.ev y = some (.int .u8 (ordN big))) (hz : fm.ev z = some (.pointer (some ⟨pb, 0, none⟩))) :
  Main Tryd.prog w0 E fm N ((pb, .cells l0.toArray e0 (0, 0)) :: (fp, fo) :: (sb, srO (.iface t u) 0 cur lim nn) :: (1, g.o) :: (0, gu.o) :: ms) ⟨d, .call { callee := .value (.func 39), args := #[x, y, z], argTypes := ts }, ty, pos, after, gd⟩ (fun q : sec64X => q.v) (fun q => q.N) (fun q => q.mm)
   (fun q => (q.xs.length = 64 ∧ q.v = .nilIface ∧ q.mm = (pb, .cells (sec64L big q.xs).toArray e0 (0, 0)) :: (sb, srO (.iface t u) 0 q.cur lim nn) :: (fp, fo) :: (1, g.o) :: (0, gu.o) :: ms) ∨ ((∃ t u, q.v = .iface t u) ∧ q.mm = [])) := by
 refine m_call (args3 hx hy hz) Tryd.call39 fun w hw => ?_
 have hnd0 : (((sb, srO (.iface t u) 0 cur lim nn) :: (pb, Obj.cells l0.toArray e0 (0, 0)) :: (1, g.o) :: (0, gu.o) :: ms).map Prod.fst).Nodup := by
  simp only [List.map_cons, List.nodup_cons, List.mem_cons, not_or] at hnd ⊢
  obtain ⟨⟨a1, a2, a3, a4, a5⟩, ⟨b1, b2, b3, b4⟩, ⟨c1, c2, c3⟩, d1, d2⟩ := hnd
  exact ⟨⟨Ne.symm a2, c1, c2, c3⟩, ⟨a3, a4, a5⟩, d1, d2⟩
 refine Calls.mono (sec64 (gu := gu) h big (sb := sb) (pb := pb) (base := 0) (cur := cur) (lim := lim) (nn := nn) (l0 := l0) (e0 := e0) hlim hcur hfull hnd0 (fun p hp => hw.has p (by simp only [List.mem_cons] at hp ⊢; rcases hp with hp | hp | hp | hp | hp <;> simp [hp])) hl0) fun en w' hp => ?_
 have hkeep : ∀ p ∈ (fp, fo) :: (1, g.o) :: (0, gu.o) :: ms, ¬ (p.1 = sb ∨ p.1 = pb) := by
  simp only [List.map_cons, List.nodup_cons, List.mem_cons, not_or] at hnd
  obtain ⟨⟨a1, a2, a3, a4, a5⟩, ⟨b1, b2, b3, b4⟩, ⟨c1, c2, c3⟩, d1, d2⟩ := hnd
  intro p hp hk
  simp only [List.mem_cons] at hp
  rcases hp with rfl | rfl | rfl | hp
  ·
   rcases hk with hk | hk
   ·
    exact b1 hk
   ·
    exact a1 hk.symm
  ·
   rcases hk with hk | hk
   ·
    exact c1 hk.symm
   ·
    exact a3 hk.symm
  ·
   rcases hk with hk | hk
   ·
    exact c2 hk.symm
   ·
    exact a4 hk.symm
  ·
   rcases hk with hk | hk
   ·
    exact c3 (hk ▸ List.mem_map_of_mem (f := Prod.fst) hp)
   ·
    exact a5 (hk ▸ List.mem_map_of_mem (f := Prod.fst) hp)
 rcases hp with ⟨xs, hxs, hen, he, h1, h2⟩ | ⟨⟨t2, u2, hen⟩, he⟩
 ·
  refine ⟨⟨.nilIface, xs, cur + xs.length, w'.heap.size, (pb, .cells (sec64L big xs).toArray e0 (0, 0)) :: (sb, srO (.iface t u) 0 (cur + xs.length) lim nn) :: (fp, fo) :: (1, g.o) :: (0, gu.o) :: ms⟩, .inl ⟨hxs, rfl, rfl⟩, hen, ?_⟩
  refine hw.call he hE ((fp, fo) :: (1, g.o) :: (0, gu.o) :: ms) [(pb, _), (sb, _)] (fun q hq => by simp only [List.mem_cons] at hq ⊢; rcases hq with hq | hq | hq | hq <;> simp [hq]) hkeep ?_ ?_
  ·
   intro q hq
   rcases List.mem_cons.1 hq with rfl | hq
   ·
    exact h2
   ·
    have := List.mem_singleton.1 hq; subst this; exact h1
  ·
   simp only [List.cons_append, List.nil_append, List.map_cons, List.nodup_cons, List.mem_cons, not_or] at hnd ⊢
   obtain ⟨⟨a1, a2, a3, a4, a5⟩, ⟨b1, b2, b3, b4⟩, ⟨c1, c2, c3⟩, d1, d2⟩ := hnd
   exact ⟨⟨a2, a1, a3, a4, a5⟩, ⟨Ne.symm b1, c1, c2, c3⟩, ⟨b2, b3, b4⟩, d1, d2⟩
 ·
  refine ⟨⟨_, [], 0, w'.heap.size, []⟩, .inr ⟨⟨t2, u2, rfl⟩, rfl⟩, hen, ?_⟩
  exact hw.call he hE [] [] (fun q hq => by cases hq) (fun q hq => by cases hq) (fun q hq => by cases hq) List.nodup_nil

theorem _root_.Go.Sx.Mem.drop_swap {w0 w : World} {E : Nat → Prop} {N : Nat} {a b c : Nat × Obj} {r : MM} (h : Mem w0 E N (a :: b :: c :: r) w) : Mem w0 E N (c :: b :: r) w :=
 (h.sublist (ms := b :: c :: r) (.cons _ (List.Sublist.refl _))).perm (.swap _ _ _)
/-- A Seek, by a call. -/
theorem seek_inv {w0 : World} {E : Nat → Prop} {fm : FM} {N : Nat} {x y z : Operand} {ts : Array TypeId} {sb cur lim off i : Nat} {v nn : Value} {mm ms : MM} {d : Option Nat} {ty : TypeId} {pos : String} {after : Array Edge} {gd : Option (Nat × Bool)} (hoff : off ≤ 9223372036854775807)
  (hx : fm.ev x = some (.pointer (some ⟨sb, 0, none⟩))) (hy : fm.ev y = some (.int .i64 ((off : Nat) : Int))) (hz : fm.ev z = some (.int .i64 0)) (hm : mm[i]? = some (sb, srO v 0 cur lim nn)) (hmm : setK mm i (sb, srO v 0 off lim nn) some = some ms) (hE : sb < w0.heap.size → E sb) :
  Main Tryd.prog w0 E fm N mm ⟨d, .call { callee := .value (.func 37), args := #[x, y, z], argTypes := ts }, ty, pos, after, gd⟩ (fun q : Value => q) (fun _ => N) (fun _ => ms) (fun _ => True) := by
 obtain ⟨_, hms⟩ := setK_eq hmm
 simp only [Option.some.injEq] at hms
 refine m_call (args3 hx hy hz) Tryd.call37 fun w hw => ?_
 refine (seek37 (hw.get hm) hoff).mono fun en w' ⟨v', he, hu⟩ => ⟨v', trivial, he, hms ▸ hw.upd hm hu hE⟩

theorem tr_full {g : Gx} {bs : List UInt8} {cur n : Nat} {xs : List UInt8} {e : Value} (hb : bs.length ≤ 8192) (hn : n ≤ 9223372036854767000) (h : TR g (RD g bs) (limOf 0 9223372036854775807) cur n xs e) (he : e = .nilIface) : xs.length = n := by
 rw [show limOf 0 9223372036854775807 = 9223372036854775807 from rfl] at h
 rcases h with ⟨_, _, h3⟩ | ⟨h1, h2, h3⟩
 ·
  rw [h3] at he; cases he
 ·
  rcases h3 with ⟨_, h3⟩ | ⟨h3, _⟩
  ·
   have : xs.length ≤ bs.length - cur := by rw [h2]; simp; omega
   omega
  ·
   rw [h3] at he; cases he
theorem nf_d_false {g gu : Gx} {bs : List UInt8} {u : Value} {ms : MM} {w0 : World} (cx : Cx g gu bs u ms w0) (hE : StE g gu bs u ms w0) : ∀ big fp sb N, ChkOk bs → isBig bs = big → isWide bs = false → w0.heap.size ≤ fp → w0.heap.size ≤ sb →
 Sc Tryd.prog r28 (bodyPost Tryd.prog Tryd.f22 (NF bs u ((1, g.o) :: (0, gu.o) :: ms) w0)) 1287 w0 E0 [(0, .iface 117 u), (4, .pointer (some ⟨sb, 0, none⟩)), (8, .pointer (some ⟨fp, 0, none⟩)), (9, .int .u8 (ordN big)), (10, .int .i64 ((hd bs).phoff : Int)), (11, .int .i64 ((hd bs).phes : Int)), (12, .int .i64 ((hd bs).phnum : Int)), (13, .int .i64 ((hd bs).shoff : Int)), (14, .int .i64 ((hd bs).shes : Int)), (15, .int .i64 ((hd bs).shnum : Int)), (16, .int .i64 ((hd bs).names : Int)), (26, .int .i64 ((wd false 40 64 : Nat) : Int))] N
  ((fp, fileO bs big (hd bs).type (hd bs).machine (hd bs).entry (.slice none 0 0) (.slice none 0 0)) :: (sb, rdO u 0 9223372036854775807) :: (1, g.o) :: (0, gu.o) :: ms) := by
 intro big fp sb N hchk hbig hwd hfp hsb
 have c4 : bv bs 4 = 1 := by have := hchk.rd.id.cls; simp [isWide] at hwd; omega
 have hph := hchk.ph
 have hsh := hchk.sh
 have blen := cx.len
 refine sc_known fun hnd0 hge0 hlt0 => ?_
 obtain ⟨hl1, hl2, hl3, hl4, hl5, hl6, hl7, hl8, hl9, hl10, hl11⟩ := hd_lt bs
 refine sc_seq ?_
 refine scR ?_
 refine sqM rfl rfl ?_
 refine sq_split (q_gtr rfl rfl) rfl (fun h87_1 => ?_) (fun h87_1 => ?_)
 ·
  have _tok := trivial
  refine sqM rfl rfl ?_
  refine sq_gy rfl rfl rfl ?_
  refine sqM rfl rfl ?_
  refine sq_gy rfl rfl rfl ?_
  refine sq_split (q_eql rfl rfl) rfl (fun h87_4 => ?_) (fun h87_4 => ?_)
  ·
   have hbad : ¬ Good bs := fun hg => by have h9 := hg.head.zero; omega
   refine sq_gy rfl rfl rfl ?_
   refine sqM rfl rfl ?_
   iterate 2 refine sq_gn rfl rfl rfl rfl ?_
   refine sq_gy rfl rfl rfl ?_
   iterate 2 refine sqT rfl rfl rfl ?_
   refine sqK [0, 4, 8, 9, 10, 11, 12, 13, 14, 15, 16, 26, 433] rfl ?_
   refine sc_cond_t rfl ?_
   refine scR ?_
   iterate 3 refine sqA rfl rfl ?_
   refine sqKR [0, 4, 8, 9, 10, 11, 12, 13, 14, 15, 16, 26, 27, 28, 29] rfl ?_
   refine sqA rfl rfl ?_
   refine sqZ ?_
   refine scR ?_
   iterate 2 refine sqM rfl rfl ?_
   refine sq_m (seek_inv (i := 1) (off := (hd bs).shoff) (v := .iface 117 u) (by omega) rfl rfl rfl rfl rfl (fun h => absurd h (by omega))) rfl (fun _ _ => ?_)
   refine sqK [0, 4, 8, 9, 10, 11, 12, 13, 14, 15, 16, 26, 27, 28, 29, 30] rfl ?_
   refine sc_seq ?_
   refine scR ?_
   refine sqM rfl rfl ?_
   refine sq_q (q_nil rfl) rfl ?_
   refine sq_q (q_fieldj (j := 0) rfl Tryd.runUnderlying72 rfl Tryd.sizeOf66 rfl) rfl ?_
   refine sq_q (q_fieldj (j := 0) rfl Tryd.runUnderlying66 rfl Tryd.sizeOf57 rfl) rfl ?_
   refine sq_q (q_load1 rfl Tryd.isAgg57 (i := 0) rfl rfl) rfl ?_
   refine sqK [0, 4, 8, 9, 10, 11, 12, 13, 14, 15, 16, 26, 27, 28, 29, 30, 441] rfl ?_
   refine sc_block ?_
   refine scR ?_
   refine sq_q (q_decT (q_eql rfl rfl) (by omega)) rfl ?_
   refine sqA rfl rfl ?_
   refine sqK [0, 4, 8, 9, 10, 11, 12, 13, 14, 15, 16, 26, 27, 28, 29, 30, 441, 442] rfl ?_
   refine sc_cond_t rfl ?_
   refine scR ?_
   refine sq_m (m_alloc (l := [.int .u32 0, .int .u32 0, .int .u32 0, .int .u32 0, .int .u32 0, .int .u32 0, .int .u32 0, .int .u32 0, .int .u32 0, .int .u32 0]) Tryd.zeroValue147 rfl) rfl (fun _ _ => ?_)
   refine sq_known fun hnd hge hlt => ?_
   refine sqA rfl rfl ?_
   refine sqK [0, 4, 8, 9, 10, 11, 12, 13, 14, 15, 16, 26, 31] rfl ?_
   refine sc_seq ?_
   refine scR ?_
   refine sqM rfl rfl ?_
   refine sq_q (q_iface rfl Tryd.runUnderlying81 rfl) rfl ?_
   iterate 2 refine sqM rfl rfl ?_
   refine sq_m (sec32_inv cx.rc big (limOf_le _ _) (by omega) (fun xs e ht he => tr_full cx.len (by omega) ht he) hnd rfl (fun k hk hl => absurd hl (by rcases hk with hk | hk <;> omega)) rfl rfl rfl) rfl (fun q hq => ?_)
   refine sqA rfl rfl ?_
   obtain ⟨v, xs, cur, N2, mm⟩ := q
   rcases hq with ⟨hxs, hv, hmm⟩ | ⟨⟨t2, u2, hv⟩, hmm⟩
   ·
    dsimp only at hv hmm
    subst hv hmm
    have f5 := fld4 big xs 20
    have f6 := fld4 big xs 24
    have f7 := fld4 big xs 28
    refine sqKR [0, 4, 8, 9, 10, 11, 12, 13, 14, 15, 16, 26, 31, 32] rfl ?_
    refine sqM rfl rfl ?_
    refine sq_q (q_nil_neq_nil rfl Tryd.runUnderlying86) rfl ?_
    refine sqK [0, 4, 8, 9, 10, 11, 12, 13, 14, 15, 16, 26, 31, 32, 451] rfl ?_
    refine sc_cond_f rfl ?_
    refine scS ?_
    refine scK [0, 4, 8, 9, 10, 11, 12, 13, 14, 15, 16, 26, 31] rfl ?_
    refine scR ?_
    refine sqM rfl rfl ?_
    refine sq_q (q_nil rfl) rfl ?_
    refine sq_q (q_fieldj (j := 5) rfl Tryd.runUnderlying147 rfl Tryd.sizeOf74 rfl) rfl ?_
    refine sq_q (q_load1 rfl Tryd.isAgg74 (i := 0) rfl rfl) rfl ?_
    refine sq_q (q_conv rfl Tryd.runUnderlying74 Tryd.runUnderlying23 (w_u64 (by omega) (by omega))) rfl ?_
    refine sqA rfl rfl ?_
    refine sqKR [0, 4, 8, 9, 10, 11, 12, 13, 14, 15, 16, 26, 30, 31] rfl ?_
    refine sqM rfl rfl ?_
    refine sq_q (q_nil rfl) rfl ?_
    refine sq_q (q_fieldj (j := 1) rfl Tryd.runUnderlying147 rfl Tryd.sizeOf74 rfl) rfl ?_
    refine sq_q (q_load1 rfl Tryd.isAgg74 (i := 0) rfl rfl) rfl ?_
    refine sqA rfl rfl ?_
    refine sqKR [0, 4, 8, 9, 10, 11, 12, 13, 14, 15, 16, 26, 27, 30, 31] rfl ?_
    refine sqM rfl rfl ?_
    refine sq_q (q_nil rfl) rfl ?_
    refine sq_q (q_fieldj (j := 6) rfl Tryd.runUnderlying147 rfl Tryd.sizeOf74 rfl) rfl ?_
    refine sq_q (q_load1 rfl Tryd.isAgg74 (i := 0) rfl rfl) rfl ?_
    refine sqA rfl rfl ?_
    refine sqK [0, 4, 8, 9, 10, 11, 12, 13, 14, 15, 16, 26, 27, 28, 30, 31] rfl ?_
    refine sc_region ?_
    refine sqM rfl rfl ?_
    refine sq_q (q_nil rfl) rfl ?_
    refine sq_q (q_fieldj (j := 7) rfl Tryd.runUnderlying147 rfl Tryd.sizeOf74 rfl) rfl ?_
    refine sq_q (q_load1 rfl Tryd.isAgg74 (i := 0) rfl rfl) rfl ?_
    refine sqA rfl rfl ?_
    refine sq_nil ?_
    refine se_block ?_
    refine se_seq ?_
    refine scK [0, 4, 8, 9, 10, 11, 12, 13, 14, 15, 16, 26, 27, 28, 29, 30] rfl ?_
    refine sc_seq ?_
    refine scR ?_
    refine sqM rfl rfl ?_
    refine sq_split (q_neq rfl rfl) rfl (fun h110_1 => ?_) (fun h110_1 => ?_)
    ·
     have _tok := trivial
     refine sqK [0, 4, 8, 9, 10, 11, 12, 13, 14, 15, 16, 26, 27, 28, 29, 30, 498] rfl ?_
     refine sc_cond_t rfl ?_
     refine scR ?_
     iterate 2 refine sqM rfl rfl ?_
     refine sq_q (q_iface rfl Tryd.runUnderlying75 rfl) rfl ?_
     refine sq_q (q_build (vs := [(0, _), (1, _), (2, _)]) ⟨rfl, rfl, rfl, rfl, rfl, rfl, trivial⟩ b139) rfl ?_
     refine sq_m (m_box rfl rfl) rfl (fun _ _ => ?_)
     refine sq_q (q_iface rfl Tryd.runUnderlying137 rfl) rfl ?_
     iterate 2 refine sqA rfl rfl ?_
     refine sqK [2, 3] rfl ?_
     refine sc_ret ?_
     iterate 2 refine se_then_ret ?_
     exact se_end (res2 Tryd.results22 rfl rfl) (fun w' hw => .inl ⟨hbad, ⟨_, _, _, rfl⟩, hw.eff⟩)
    refine sqK [0, 4, 8, 9, 10, 11, 12, 13, 14, 15, 16, 26, 27, 28, 29, 30, 498] rfl ?_
    refine sc_cond_f rfl ?_
    refine scS ?_
    refine scK [0, 4, 8, 9, 10, 11, 12, 13, 14, 15, 16, 26, 28, 29, 30] rfl ?_
    refine sc_seq ?_
    refine scR ?_
    refine sqM rfl rfl ?_
    refine sq_split (q_eql rfl rfl) rfl (fun h112_1 => ?_) (fun h112_1 => ?_)
    ·
     have _tok := trivial
     refine sqK [0, 4, 8, 9, 10, 11, 12, 13, 14, 15, 16, 26, 28, 29, 30, 506] rfl ?_
     refine sc_cond_t rfl ?_
     refine sc_seq ?_
     refine scR ?_
     refine sqM rfl rfl ?_
     refine sq_split (q_lss rfl rfl) rfl (fun h113_1 => ?_) (fun h113_1 => ?_)
     ·
      have _tok := trivial
      refine sqK [0, 4, 8, 9, 10, 11, 12, 13, 14, 15, 16, 26, 28, 29, 30, 508] rfl ?_
      refine sc_cond_t rfl ?_
      refine scR ?_
      iterate 2 refine sqM rfl rfl ?_
      refine sq_q (q_iface rfl Tryd.runUnderlying3 rfl) rfl ?_
      refine sq_q (q_build (vs := [(0, _), (1, _), (2, _)]) ⟨rfl, rfl, rfl, rfl, rfl, rfl, trivial⟩ b139) rfl ?_
      refine sq_m (m_box rfl rfl) rfl (fun _ _ => ?_)
      refine sq_q (q_iface rfl Tryd.runUnderlying137 rfl) rfl ?_
      iterate 2 refine sqA rfl rfl ?_
      refine sqK [2, 3] rfl ?_
      refine sc_ret ?_
      iterate 3 refine se_then_ret ?_
      exact se_end (res2 Tryd.results22 rfl rfl) (fun w' hw => .inl ⟨hbad, ⟨_, _, _, rfl⟩, hw.eff⟩)
     refine sqK [0, 4, 8, 9, 10, 11, 12, 13, 14, 15, 16, 26, 28, 29, 30, 508] rfl ?_
     refine sc_cond_f rfl ?_
     refine scS ?_
     refine scK [0, 4, 8, 9, 10, 11, 12, 13, 14, 16, 26, 28, 29, 30] rfl ?_
     refine sc_region ?_
     refine sqM rfl rfl ?_
     refine sq_q (q_conv rfl Tryd.runUnderlying23 Tryd.runUnderlying3 rfl) rfl ?_
     have hsz : 65280 ≤ IntKind.i64.wrap ((fld big xs 20 4 : Nat) : Int) ∨ IntKind.i64.wrap ((fld big xs 20 4 : Nat) : Int) < 0 := by rw [IntKind.wrap_i64]; omega
     have hsz2 : IntKind.i64.wrap ((fld big xs 20 4 : Nat) : Int) ≤ 9223372036854775807 ∧ -9223372036854775808 ≤ IntKind.i64.wrap ((fld big xs 20 4 : Nat) : Int) := by rw [IntKind.wrap_i64]; omega
     refine sqA rfl rfl ?_
     refine sqK [0, 4, 8, 9, 10, 11, 12, 13, 14, 15, 16, 26, 28, 29] rfl ?_
     refine sc_seq ?_
     refine scR ?_
     refine sqM rfl rfl ?_
     refine sq_split (q_eql rfl rfl) rfl (fun h116_1 => ?_) (fun h116_1 => ?_)
     ·
      have hpn2 : (hd bs).phnum = 65535 := by omega
      have hes2 : 32 ≤ (hd bs).phes := by have := hchk.phe; rw [hwd] at this; exact this (by omega)
      refine sqK [0, 4, 8, 9, 10, 11, 12, 13, 14, 15, 16, 26, 28, 29, 518] rfl ?_
      refine sc_cond_t rfl ?_
      refine sc_seq ?_
      refine scR ?_
      refine sqM rfl rfl ?_
      refine sq_split (q_lss rfl rfl) rfl (fun h117_1 => ?_) (fun h117_1 => ?_)
      ·
       have _tok := trivial
       refine sqK [0, 4, 8, 9, 10, 11, 13, 14, 15, 16, 26, 28, 29, 520] rfl ?_
       refine sc_cond_t rfl ?_
       refine scR ?_
       iterate 2 refine sqM rfl rfl ?_
       refine sq_q (q_iface rfl Tryd.runUnderlying74 rfl) rfl ?_
       refine sq_q (q_build (vs := [(0, _), (1, _), (2, _)]) ⟨rfl, rfl, rfl, rfl, rfl, rfl, trivial⟩ b139) rfl ?_
       refine sq_m (m_box rfl rfl) rfl (fun _ _ => ?_)
       refine sq_q (q_iface rfl Tryd.runUnderlying137 rfl) rfl ?_
       iterate 2 refine sqA rfl rfl ?_
       refine sqK [2, 3] rfl ?_
       refine sc_ret ?_
       iterate 3 refine se_then_ret ?_
       exact se_end (res2 Tryd.results22 rfl rfl) (fun w' hw => .inl ⟨hbad, ⟨_, _, _, rfl⟩, hw.eff⟩)
      refine sqK [0, 4, 8, 9, 10, 11, 13, 14, 15, 16, 26, 28, 29, 520] rfl ?_
      refine sc_cond_f rfl ?_
      refine scS ?_
      refine scK [0, 4, 8, 9, 10, 11, 13, 14, 15, 16, 26, 28, 29] rfl ?_
      refine sc_region ?_
      refine sqM rfl rfl ?_
      refine sq_q (q_conv rfl Tryd.runUnderlying74 Tryd.runUnderlying3 (w_i64 (by omega) (by omega))) rfl ?_
      refine sqA rfl rfl ?_
      refine sqKR [0, 4, 8, 9, 10, 11, 12, 13, 14, 15, 16, 26, 28] rfl ?_
      refine sqM rfl rfl ?_
      refine sq_split (q_eql rfl rfl) rfl (fun h120_1 => ?_) (fun h120_1 => ?_)
      ·
       have _tok := trivial
       refine sqK [0, 4, 8, 9, 10, 11, 12, 13, 14, 15, 16, 26, 28, 530] rfl ?_
       refine sc_cond_t rfl ?_
       refine scR ?_
       refine sqM rfl rfl ?_
       refine sq_q (q_conv rfl Tryd.runUnderlying74 Tryd.runUnderlying3 (w_i64 (by omega) (by omega))) rfl ?_
       refine sqA rfl rfl ?_
       refine sqKR [0, 4, 8, 9, 10, 11, 12, 13, 14, 15, 16, 26] rfl ?_
       refine sqM rfl rfl ?_
       refine sq_split (q_lss rfl rfl) rfl (fun h122_1 => ?_) (fun h122_1 => ?_)
       ·
        have _tok := trivial
        refine sqM rfl rfl ?_
        iterate 3 refine sq_gn rfl rfl rfl rfl ?_
        refine sqT rfl rfl rfl ?_
        refine sqK [0, 4, 8, 9, 10, 11, 12, 13, 14, 15, 16, 26, 539] rfl ?_
        refine sc_cond_t rfl ?_
        refine scR ?_
        iterate 2 refine sqM rfl rfl ?_
        refine sq_q (q_iface rfl Tryd.runUnderlying3 rfl) rfl ?_
        refine sq_q (q_build (vs := [(0, _), (1, _), (2, _)]) ⟨rfl, rfl, rfl, rfl, rfl, rfl, trivial⟩ b139) rfl ?_
        refine sq_m (m_box rfl rfl) rfl (fun _ _ => ?_)
        refine sq_q (q_iface rfl Tryd.runUnderlying137 rfl) rfl ?_
        iterate 2 refine sqA rfl rfl ?_
        refine sqK [2, 3] rfl ?_
        refine sc_ret ?_
        refine se_then_ret ?_
        exact se_end (res2 Tryd.results22 rfl rfl) (fun w' hw => .inl ⟨hbad, ⟨_, _, _, rfl⟩, hw.eff⟩)
       refine sqM rfl rfl ?_
       refine sq_gy rfl rfl rfl ?_
       refine sqM rfl rfl ?_
       refine sq_gy rfl rfl rfl ?_
       refine sqM rfl rfl ?_
       refine sq_gy rfl rfl rfl ?_
       refine sq_split (q_geq rfl rfl) rfl (fun h122_5 => ?_) (fun h122_5 => ?_)
       ·
        have _tok := trivial
        refine sqF rfl rfl rfl ?_
        refine sqK [0, 4, 8, 9, 10, 11, 12, 13, 14, 15, 16, 26, 539] rfl ?_
        refine sc_cond_t rfl ?_
        refine scR ?_
        iterate 2 refine sqM rfl rfl ?_
        refine sq_q (q_iface rfl Tryd.runUnderlying3 rfl) rfl ?_
        refine sq_q (q_build (vs := [(0, _), (1, _), (2, _)]) ⟨rfl, rfl, rfl, rfl, rfl, rfl, trivial⟩ b139) rfl ?_
        refine sq_m (m_box rfl rfl) rfl (fun _ _ => ?_)
        refine sq_q (q_iface rfl Tryd.runUnderlying137 rfl) rfl ?_
        iterate 2 refine sqA rfl rfl ?_
        refine sqK [2, 3] rfl ?_
        refine sc_ret ?_
        refine se_then_ret ?_
        exact se_end (res2 Tryd.results22 rfl rfl) (fun w' hw => .inl ⟨hbad, ⟨_, _, _, rfl⟩, hw.eff⟩)
       refine sqF rfl rfl rfl ?_
       refine sqK [0, 4, 8, 9, 10, 11, 12, 13, 14, 15, 16, 26, 539] rfl ?_
       refine sc_cond_f rfl ?_
       refine scS ?_
       iterate 2 refine scK [0, 4, 8, 9, 10, 11, 12, 13, 14, 15, 16, 26] rfl ?_
       refine sc_mem (fun _ h => h.drop_swap) ?_
       exact hE big _ fp sb _ _ _ _ _ hchk hbig hwd hfp hsb (by omega) (by omega) (by omega) (by omega) (by omega) (.inr ⟨hbad, .inl ⟨by omega, by omega⟩⟩)
      refine sqK [0, 4, 8, 9, 10, 11, 12, 13, 14, 15, 16, 26, 28, 530] rfl ?_
      refine sc_cond_f rfl ?_
      refine scS ?_
      iterate 2 refine scK [0, 4, 8, 9, 10, 11, 12, 13, 14, 15, 16, 26] rfl ?_
      refine sc_mem (fun _ h => h.drop_swap) ?_
      exact hE big _ fp sb _ _ _ _ _ hchk hbig hwd hfp hsb (by omega) (by omega) (by omega) (by omega) (by omega) (.inr ⟨hbad, .inl ⟨by omega, by omega⟩⟩)
     refine sqK [0, 4, 8, 9, 10, 11, 12, 13, 14, 15, 16, 26, 28, 29, 518] rfl ?_
     refine sc_cond_f rfl ?_
     refine scS ?_
     refine scK [0, 4, 8, 9, 10, 11, 12, 13, 14, 15, 16, 26, 28] rfl ?_
     refine scR ?_
     refine sqM rfl rfl ?_
     refine sq_split (q_eql rfl rfl) rfl (fun h120_1 => ?_) (fun h120_1 => ?_)
     ·
      have _tok := trivial
      refine sqK [0, 4, 8, 9, 10, 11, 12, 13, 14, 15, 16, 26, 28, 530] rfl ?_
      refine sc_cond_t rfl ?_
      refine scR ?_
      refine sqM rfl rfl ?_
      refine sq_q (q_conv rfl Tryd.runUnderlying74 Tryd.runUnderlying3 (w_i64 (by omega) (by omega))) rfl ?_
      refine sqA rfl rfl ?_
      refine sqKR [0, 4, 8, 9, 10, 11, 12, 13, 14, 15, 16, 26] rfl ?_
      refine sqM rfl rfl ?_
      refine sq_split (q_lss rfl rfl) rfl (fun h122_1 => ?_) (fun h122_1 => ?_)
      ·
       have _tok := trivial
       refine sqM rfl rfl ?_
       iterate 3 refine sq_gn rfl rfl rfl rfl ?_
       refine sqT rfl rfl rfl ?_
       refine sqK [0, 4, 8, 9, 10, 11, 12, 13, 14, 15, 16, 26, 539] rfl ?_
       refine sc_cond_t rfl ?_
       refine scR ?_
       iterate 2 refine sqM rfl rfl ?_
       refine sq_q (q_iface rfl Tryd.runUnderlying3 rfl) rfl ?_
       refine sq_q (q_build (vs := [(0, _), (1, _), (2, _)]) ⟨rfl, rfl, rfl, rfl, rfl, rfl, trivial⟩ b139) rfl ?_
       refine sq_m (m_box rfl rfl) rfl (fun _ _ => ?_)
       refine sq_q (q_iface rfl Tryd.runUnderlying137 rfl) rfl ?_
       iterate 2 refine sqA rfl rfl ?_
       refine sqK [2, 3] rfl ?_
       refine sc_ret ?_
       refine se_then_ret ?_
       exact se_end (res2 Tryd.results22 rfl rfl) (fun w' hw => .inl ⟨hbad, ⟨_, _, _, rfl⟩, hw.eff⟩)
      refine sqM rfl rfl ?_
      refine sq_gy rfl rfl rfl ?_
      refine sqM rfl rfl ?_
      refine sq_gy rfl rfl rfl ?_
      refine sqM rfl rfl ?_
      refine sq_gy rfl rfl rfl ?_
      refine sq_split (q_geq rfl rfl) rfl (fun h122_5 => ?_) (fun h122_5 => ?_)
      ·
       have _tok := trivial
       refine sqF rfl rfl rfl ?_
       refine sqK [0, 4, 8, 9, 10, 11, 12, 13, 14, 15, 16, 26, 539] rfl ?_
       refine sc_cond_t rfl ?_
       refine scR ?_
       iterate 2 refine sqM rfl rfl ?_
       refine sq_q (q_iface rfl Tryd.runUnderlying3 rfl) rfl ?_
       refine sq_q (q_build (vs := [(0, _), (1, _), (2, _)]) ⟨rfl, rfl, rfl, rfl, rfl, rfl, trivial⟩ b139) rfl ?_
       refine sq_m (m_box rfl rfl) rfl (fun _ _ => ?_)
       refine sq_q (q_iface rfl Tryd.runUnderlying137 rfl) rfl ?_
       iterate 2 refine sqA rfl rfl ?_
       refine sqK [2, 3] rfl ?_
       refine sc_ret ?_
       refine se_then_ret ?_
       exact se_end (res2 Tryd.results22 rfl rfl) (fun w' hw => .inl ⟨hbad, ⟨_, _, _, rfl⟩, hw.eff⟩)
      refine sqF rfl rfl rfl ?_
      refine sqK [0, 4, 8, 9, 10, 11, 12, 13, 14, 15, 16, 26, 539] rfl ?_
      refine sc_cond_f rfl ?_
      refine scS ?_
      iterate 2 refine scK [0, 4, 8, 9, 10, 11, 12, 13, 14, 15, 16, 26] rfl ?_
      refine sc_mem (fun _ h => h.drop_swap) ?_
      exact hE big _ fp sb _ _ _ _ _ hchk hbig hwd hfp hsb (by omega) (by omega) (by omega) (by omega) (by omega) (.inr ⟨hbad, .inr ⟨rfl, by omega⟩⟩)
     refine sqK [0, 4, 8, 9, 10, 11, 12, 13, 14, 15, 16, 26, 28, 530] rfl ?_
     refine sc_cond_f rfl ?_
     refine scS ?_
     iterate 2 refine scK [0, 4, 8, 9, 10, 11, 12, 13, 14, 15, 16, 26] rfl ?_
     refine sc_mem (fun _ h => h.drop_swap) ?_
     exact hE big _ fp sb _ _ _ _ _ hchk hbig hwd hfp hsb (by omega) (by omega) (by omega) (by omega) (by omega) (.inr ⟨hbad, .inr ⟨rfl, by omega⟩⟩)
    refine sqK [0, 4, 8, 9, 10, 11, 12, 13, 14, 15, 16, 26, 28, 29, 30, 506] rfl ?_
    refine sc_cond_f rfl ?_
    refine scS ?_
    refine scK [0, 4, 8, 9, 10, 11, 12, 13, 14, 15, 16, 26, 28, 29] rfl ?_
    refine sc_seq ?_
    refine scR ?_
    refine sqM rfl rfl ?_
    refine sq_split (q_eql rfl rfl) rfl (fun h116_1 => ?_) (fun h116_1 => ?_)
    ·
     have hpn2 : (hd bs).phnum = 65535 := by omega
     have hes2 : 32 ≤ (hd bs).phes := by have := hchk.phe; rw [hwd] at this; exact this (by omega)
     refine sqK [0, 4, 8, 9, 10, 11, 12, 13, 14, 15, 16, 26, 28, 29, 518] rfl ?_
     refine sc_cond_t rfl ?_
     refine sc_seq ?_
     refine scR ?_
     refine sqM rfl rfl ?_
     refine sq_split (q_lss rfl rfl) rfl (fun h117_1 => ?_) (fun h117_1 => ?_)
     ·
      have _tok := trivial
      refine sqK [0, 4, 8, 9, 10, 11, 13, 14, 15, 16, 26, 28, 29, 520] rfl ?_
      refine sc_cond_t rfl ?_
      refine scR ?_
      iterate 2 refine sqM rfl rfl ?_
      refine sq_q (q_iface rfl Tryd.runUnderlying74 rfl) rfl ?_
      refine sq_q (q_build (vs := [(0, _), (1, _), (2, _)]) ⟨rfl, rfl, rfl, rfl, rfl, rfl, trivial⟩ b139) rfl ?_
      refine sq_m (m_box rfl rfl) rfl (fun _ _ => ?_)
      refine sq_q (q_iface rfl Tryd.runUnderlying137 rfl) rfl ?_
      iterate 2 refine sqA rfl rfl ?_
      refine sqK [2, 3] rfl ?_
      refine sc_ret ?_
      iterate 3 refine se_then_ret ?_
      exact se_end (res2 Tryd.results22 rfl rfl) (fun w' hw => .inl ⟨hbad, ⟨_, _, _, rfl⟩, hw.eff⟩)
     refine sqK [0, 4, 8, 9, 10, 11, 13, 14, 15, 16, 26, 28, 29, 520] rfl ?_
     refine sc_cond_f rfl ?_
     refine scS ?_
     refine scK [0, 4, 8, 9, 10, 11, 13, 14, 15, 16, 26, 28, 29] rfl ?_
     refine sc_region ?_
     refine sqM rfl rfl ?_
     refine sq_q (q_conv rfl Tryd.runUnderlying74 Tryd.runUnderlying3 (w_i64 (by omega) (by omega))) rfl ?_
     refine sqA rfl rfl ?_
     refine sqKR [0, 4, 8, 9, 10, 11, 12, 13, 14, 15, 16, 26, 28] rfl ?_
     refine sqM rfl rfl ?_
     refine sq_split (q_eql rfl rfl) rfl (fun h120_1 => ?_) (fun h120_1 => ?_)
     ·
      have _tok := trivial
      refine sqK [0, 4, 8, 9, 10, 11, 12, 13, 14, 15, 16, 26, 28, 530] rfl ?_
      refine sc_cond_t rfl ?_
      refine scR ?_
      refine sqM rfl rfl ?_
      refine sq_q (q_conv rfl Tryd.runUnderlying74 Tryd.runUnderlying3 (w_i64 (by omega) (by omega))) rfl ?_
      refine sqA rfl rfl ?_
      refine sqKR [0, 4, 8, 9, 10, 11, 12, 13, 14, 15, 16, 26] rfl ?_
      refine sqM rfl rfl ?_
      refine sq_split (q_lss rfl rfl) rfl (fun h122_1 => ?_) (fun h122_1 => ?_)
      ·
       have _tok := trivial
       refine sqM rfl rfl ?_
       iterate 3 refine sq_gn rfl rfl rfl rfl ?_
       refine sqT rfl rfl rfl ?_
       refine sqK [0, 4, 8, 9, 10, 11, 12, 13, 14, 15, 16, 26, 539] rfl ?_
       refine sc_cond_t rfl ?_
       refine scR ?_
       iterate 2 refine sqM rfl rfl ?_
       refine sq_q (q_iface rfl Tryd.runUnderlying3 rfl) rfl ?_
       refine sq_q (q_build (vs := [(0, _), (1, _), (2, _)]) ⟨rfl, rfl, rfl, rfl, rfl, rfl, trivial⟩ b139) rfl ?_
       refine sq_m (m_box rfl rfl) rfl (fun _ _ => ?_)
       refine sq_q (q_iface rfl Tryd.runUnderlying137 rfl) rfl ?_
       iterate 2 refine sqA rfl rfl ?_
       refine sqK [2, 3] rfl ?_
       refine sc_ret ?_
       refine se_then_ret ?_
       exact se_end (res2 Tryd.results22 rfl rfl) (fun w' hw => .inl ⟨hbad, ⟨_, _, _, rfl⟩, hw.eff⟩)
      refine sqM rfl rfl ?_
      refine sq_gy rfl rfl rfl ?_
      refine sqM rfl rfl ?_
      refine sq_gy rfl rfl rfl ?_
      refine sqM rfl rfl ?_
      refine sq_gy rfl rfl rfl ?_
      refine sq_split (q_geq rfl rfl) rfl (fun h122_5 => ?_) (fun h122_5 => ?_)
      ·
       have _tok := trivial
       refine sqF rfl rfl rfl ?_
       refine sqK [0, 4, 8, 9, 10, 11, 12, 13, 14, 15, 16, 26, 539] rfl ?_
       refine sc_cond_t rfl ?_
       refine scR ?_
       iterate 2 refine sqM rfl rfl ?_
       refine sq_q (q_iface rfl Tryd.runUnderlying3 rfl) rfl ?_
       refine sq_q (q_build (vs := [(0, _), (1, _), (2, _)]) ⟨rfl, rfl, rfl, rfl, rfl, rfl, trivial⟩ b139) rfl ?_
       refine sq_m (m_box rfl rfl) rfl (fun _ _ => ?_)
       refine sq_q (q_iface rfl Tryd.runUnderlying137 rfl) rfl ?_
       iterate 2 refine sqA rfl rfl ?_
       refine sqK [2, 3] rfl ?_
       refine sc_ret ?_
       refine se_then_ret ?_
       exact se_end (res2 Tryd.results22 rfl rfl) (fun w' hw => .inl ⟨hbad, ⟨_, _, _, rfl⟩, hw.eff⟩)
      refine sqF rfl rfl rfl ?_
      refine sqK [0, 4, 8, 9, 10, 11, 12, 13, 14, 15, 16, 26, 539] rfl ?_
      refine sc_cond_f rfl ?_
      refine scS ?_
      iterate 2 refine scK [0, 4, 8, 9, 10, 11, 12, 13, 14, 15, 16, 26] rfl ?_
      refine sc_mem (fun _ h => h.drop_swap) ?_
      exact hE big _ fp sb _ _ _ _ _ hchk hbig hwd hfp hsb (by omega) (by omega) (by omega) (by omega) (by omega) (.inr ⟨hbad, .inl ⟨by omega, by omega⟩⟩)
     refine sqK [0, 4, 8, 9, 10, 11, 12, 13, 14, 15, 16, 26, 28, 530] rfl ?_
     refine sc_cond_f rfl ?_
     refine scS ?_
     iterate 2 refine scK [0, 4, 8, 9, 10, 11, 12, 13, 14, 15, 16, 26] rfl ?_
     refine sc_mem (fun _ h => h.drop_swap) ?_
     exact hE big _ fp sb _ _ _ _ _ hchk hbig hwd hfp hsb (by omega) (by omega) (by omega) (by omega) (by omega) (.inr ⟨hbad, .inl ⟨by omega, by omega⟩⟩)
    refine sqK [0, 4, 8, 9, 10, 11, 12, 13, 14, 15, 16, 26, 28, 29, 518] rfl ?_
    refine sc_cond_f rfl ?_
    refine scS ?_
    refine scK [0, 4, 8, 9, 10, 11, 12, 13, 14, 15, 16, 26, 28] rfl ?_
    refine scR ?_
    refine sqM rfl rfl ?_
    refine sq_split (q_eql rfl rfl) rfl (fun h120_1 => ?_) (fun h120_1 => ?_)
    ·
     have _tok := trivial
     refine sqK [0, 4, 8, 9, 10, 11, 12, 13, 14, 15, 16, 26, 28, 530] rfl ?_
     refine sc_cond_t rfl ?_
     refine scR ?_
     refine sqM rfl rfl ?_
     refine sq_q (q_conv rfl Tryd.runUnderlying74 Tryd.runUnderlying3 (w_i64 (by omega) (by omega))) rfl ?_
     refine sqA rfl rfl ?_
     refine sqKR [0, 4, 8, 9, 10, 11, 12, 13, 14, 15, 16, 26] rfl ?_
     refine sqM rfl rfl ?_
     refine sq_split (q_lss rfl rfl) rfl (fun h122_1 => ?_) (fun h122_1 => ?_)
     ·
      have _tok := trivial
      refine sqM rfl rfl ?_
      iterate 3 refine sq_gn rfl rfl rfl rfl ?_
      refine sqT rfl rfl rfl ?_
      refine sqK [0, 4, 8, 9, 10, 11, 12, 13, 14, 15, 16, 26, 539] rfl ?_
      refine sc_cond_t rfl ?_
      refine scR ?_
      iterate 2 refine sqM rfl rfl ?_
      refine sq_q (q_iface rfl Tryd.runUnderlying3 rfl) rfl ?_
      refine sq_q (q_build (vs := [(0, _), (1, _), (2, _)]) ⟨rfl, rfl, rfl, rfl, rfl, rfl, trivial⟩ b139) rfl ?_
      refine sq_m (m_box rfl rfl) rfl (fun _ _ => ?_)
      refine sq_q (q_iface rfl Tryd.runUnderlying137 rfl) rfl ?_
      iterate 2 refine sqA rfl rfl ?_
      refine sqK [2, 3] rfl ?_
      refine sc_ret ?_
      refine se_then_ret ?_
      exact se_end (res2 Tryd.results22 rfl rfl) (fun w' hw => .inl ⟨hbad, ⟨_, _, _, rfl⟩, hw.eff⟩)
     refine sqM rfl rfl ?_
     refine sq_gy rfl rfl rfl ?_
     refine sqM rfl rfl ?_
     refine sq_gy rfl rfl rfl ?_
     refine sqM rfl rfl ?_
     refine sq_gy rfl rfl rfl ?_
     refine sq_split (q_geq rfl rfl) rfl (fun h122_5 => ?_) (fun h122_5 => ?_)
     ·
      have _tok := trivial
      refine sqF rfl rfl rfl ?_
      refine sqK [0, 4, 8, 9, 10, 11, 12, 13, 14, 15, 16, 26, 539] rfl ?_
      refine sc_cond_t rfl ?_
      refine scR ?_
      iterate 2 refine sqM rfl rfl ?_
      refine sq_q (q_iface rfl Tryd.runUnderlying3 rfl) rfl ?_
      refine sq_q (q_build (vs := [(0, _), (1, _), (2, _)]) ⟨rfl, rfl, rfl, rfl, rfl, rfl, trivial⟩ b139) rfl ?_
      refine sq_m (m_box rfl rfl) rfl (fun _ _ => ?_)
      refine sq_q (q_iface rfl Tryd.runUnderlying137 rfl) rfl ?_
      iterate 2 refine sqA rfl rfl ?_
      refine sqK [2, 3] rfl ?_
      refine sc_ret ?_
      refine se_then_ret ?_
      exact se_end (res2 Tryd.results22 rfl rfl) (fun w' hw => .inl ⟨hbad, ⟨_, _, _, rfl⟩, hw.eff⟩)
     refine sqF rfl rfl rfl ?_
     refine sqK [0, 4, 8, 9, 10, 11, 12, 13, 14, 15, 16, 26, 539] rfl ?_
     refine sc_cond_f rfl ?_
     refine scS ?_
     iterate 2 refine scK [0, 4, 8, 9, 10, 11, 12, 13, 14, 15, 16, 26] rfl ?_
     refine sc_mem (fun _ h => h.drop_swap) ?_
     exact hE big _ fp sb _ _ _ _ _ hchk hbig hwd hfp hsb (by omega) (by omega) (by omega) (by omega) (by omega) (.inr ⟨hbad, .inl ⟨by omega, by omega⟩⟩)
    refine sqK [0, 4, 8, 9, 10, 11, 12, 13, 14, 15, 16, 26, 28, 530] rfl ?_
    refine sc_cond_f rfl ?_
    refine scS ?_
    iterate 2 refine scK [0, 4, 8, 9, 10, 11, 12, 13, 14, 15, 16, 26] rfl ?_
    refine sc_mem (fun _ h => h.drop_swap) ?_
    exact hE big _ fp sb _ _ _ _ _ hchk hbig hwd hfp hsb (by omega) (by omega) (by omega) (by omega) (by omega) (.inl ⟨rfl, rfl, rfl, by omega⟩)
   dsimp only at hv hmm
   subst hv hmm
   refine sqKR [0, 4, 8, 9, 10, 11, 12, 13, 14, 15, 16, 26, 31, 32] rfl ?_
   refine sqM rfl rfl ?_
   refine sq_q (q_iface_neq_nil rfl rfl Tryd.runUnderlying86) rfl ?_
   refine sqK [0, 4, 8, 9, 10, 11, 12, 13, 14, 15, 16, 26, 31, 32, 451] rfl ?_
   refine sc_cond_t rfl ?_
   refine scR ?_
   refine sqM rfl rfl ?_
   iterate 2 refine sqA rfl rfl ?_
   refine sqK [2, 3] rfl ?_
   refine sc_ret ?_
   refine se_then_ret ?_
   refine se_block_ret ?_
   iterate 2 refine se_then_ret ?_
   exact se_end (res2 Tryd.results22 rfl rfl) (fun w' hw => .inl ⟨hbad, ⟨_, _, _, rfl⟩, hw.eff⟩)
  refine sq_gy rfl rfl rfl ?_
  refine sqM rfl rfl ?_
  refine sq_gy rfl rfl rfl ?_
  refine sqM rfl rfl ?_
  refine sq_gy rfl rfl rfl ?_
  refine sq_split (q_eql rfl rfl) rfl (fun h87_7 => ?_) (fun h87_7 => ?_)
  ·
   have hpn : (hd bs).phnum = 65535 := by omega
   have hes : 32 ≤ (hd bs).phes := by have := hchk.phe; rw [hwd] at this; exact this (by omega)
   have hbad : ¬ Good bs := fun hg => by have h9 := hg.pcut; rw [hpn] at h9; unfold CutOk at h9; omega
   refine sq_gy rfl rfl rfl ?_
   refine sqF rfl rfl rfl ?_
   refine sqT rfl rfl rfl ?_
   refine sqK [0, 4, 8, 9, 10, 11, 12, 13, 14, 15, 16, 26, 433] rfl ?_
   refine sc_cond_t rfl ?_
   refine scR ?_
   iterate 3 refine sqA rfl rfl ?_
   refine sqKR [0, 4, 8, 9, 10, 11, 12, 13, 14, 15, 16, 26, 27, 28, 29] rfl ?_
   refine sqA rfl rfl ?_
   refine sqZ ?_
   refine scR ?_
   iterate 2 refine sqM rfl rfl ?_
   refine sq_m (seek_inv (i := 1) (off := (hd bs).shoff) (v := .iface 117 u) (by omega) rfl rfl rfl rfl rfl (fun h => absurd h (by omega))) rfl (fun _ _ => ?_)
   refine sqK [0, 4, 8, 9, 10, 11, 12, 13, 14, 15, 16, 26, 27, 28, 29, 30] rfl ?_
   refine sc_seq ?_
   refine scR ?_
   refine sqM rfl rfl ?_
   refine sq_q (q_nil rfl) rfl ?_
   refine sq_q (q_fieldj (j := 0) rfl Tryd.runUnderlying72 rfl Tryd.sizeOf66 rfl) rfl ?_
   refine sq_q (q_fieldj (j := 0) rfl Tryd.runUnderlying66 rfl Tryd.sizeOf57 rfl) rfl ?_
   refine sq_q (q_load1 rfl Tryd.isAgg57 (i := 0) rfl rfl) rfl ?_
   refine sqK [0, 4, 8, 9, 10, 11, 12, 13, 14, 15, 16, 26, 27, 28, 29, 30, 441] rfl ?_
   refine sc_block ?_
   refine scR ?_
   refine sq_q (q_decT (q_eql rfl rfl) (by omega)) rfl ?_
   refine sqA rfl rfl ?_
   refine sqK [0, 4, 8, 9, 10, 11, 12, 13, 14, 15, 16, 26, 27, 28, 29, 30, 441, 442] rfl ?_
   refine sc_cond_t rfl ?_
   refine scR ?_
   refine sq_m (m_alloc (l := [.int .u32 0, .int .u32 0, .int .u32 0, .int .u32 0, .int .u32 0, .int .u32 0, .int .u32 0, .int .u32 0, .int .u32 0, .int .u32 0]) Tryd.zeroValue147 rfl) rfl (fun _ _ => ?_)
   refine sq_known fun hnd hge hlt => ?_
   refine sqA rfl rfl ?_
   refine sqK [0, 4, 8, 9, 10, 11, 12, 13, 14, 15, 16, 26, 31] rfl ?_
   refine sc_seq ?_
   refine scR ?_
   refine sqM rfl rfl ?_
   refine sq_q (q_iface rfl Tryd.runUnderlying81 rfl) rfl ?_
   iterate 2 refine sqM rfl rfl ?_
   refine sq_m (sec32_inv cx.rc big (limOf_le _ _) (by omega) (fun xs e ht he => tr_full cx.len (by omega) ht he) hnd rfl (fun k hk hl => absurd hl (by rcases hk with hk | hk <;> omega)) rfl rfl rfl) rfl (fun q hq => ?_)
   refine sqA rfl rfl ?_
   obtain ⟨v, xs, cur, N2, mm⟩ := q
   rcases hq with ⟨hxs, hv, hmm⟩ | ⟨⟨t2, u2, hv⟩, hmm⟩
   ·
    dsimp only at hv hmm
    subst hv hmm
    have f5 := fld4 big xs 20
    have f6 := fld4 big xs 24
    have f7 := fld4 big xs 28
    refine sqKR [0, 4, 8, 9, 10, 11, 12, 13, 14, 15, 16, 26, 31, 32] rfl ?_
    refine sqM rfl rfl ?_
    refine sq_q (q_nil_neq_nil rfl Tryd.runUnderlying86) rfl ?_
    refine sqK [0, 4, 8, 9, 10, 11, 12, 13, 14, 15, 16, 26, 31, 32, 451] rfl ?_
    refine sc_cond_f rfl ?_
    refine scS ?_
    refine scK [0, 4, 8, 9, 10, 11, 12, 13, 14, 15, 16, 26, 31] rfl ?_
    refine scR ?_
    refine sqM rfl rfl ?_
    refine sq_q (q_nil rfl) rfl ?_
    refine sq_q (q_fieldj (j := 5) rfl Tryd.runUnderlying147 rfl Tryd.sizeOf74 rfl) rfl ?_
    refine sq_q (q_load1 rfl Tryd.isAgg74 (i := 0) rfl rfl) rfl ?_
    refine sq_q (q_conv rfl Tryd.runUnderlying74 Tryd.runUnderlying23 (w_u64 (by omega) (by omega))) rfl ?_
    refine sqA rfl rfl ?_
    refine sqKR [0, 4, 8, 9, 10, 11, 12, 13, 14, 15, 16, 26, 30, 31] rfl ?_
    refine sqM rfl rfl ?_
    refine sq_q (q_nil rfl) rfl ?_
    refine sq_q (q_fieldj (j := 1) rfl Tryd.runUnderlying147 rfl Tryd.sizeOf74 rfl) rfl ?_
    refine sq_q (q_load1 rfl Tryd.isAgg74 (i := 0) rfl rfl) rfl ?_
    refine sqA rfl rfl ?_
    refine sqKR [0, 4, 8, 9, 10, 11, 12, 13, 14, 15, 16, 26, 27, 30, 31] rfl ?_
    refine sqM rfl rfl ?_
    refine sq_q (q_nil rfl) rfl ?_
    refine sq_q (q_fieldj (j := 6) rfl Tryd.runUnderlying147 rfl Tryd.sizeOf74 rfl) rfl ?_
    refine sq_q (q_load1 rfl Tryd.isAgg74 (i := 0) rfl rfl) rfl ?_
    refine sqA rfl rfl ?_
    refine sqK [0, 4, 8, 9, 10, 11, 12, 13, 14, 15, 16, 26, 27, 28, 30, 31] rfl ?_
    refine sc_region ?_
    refine sqM rfl rfl ?_
    refine sq_q (q_nil rfl) rfl ?_
    refine sq_q (q_fieldj (j := 7) rfl Tryd.runUnderlying147 rfl Tryd.sizeOf74 rfl) rfl ?_
    refine sq_q (q_load1 rfl Tryd.isAgg74 (i := 0) rfl rfl) rfl ?_
    refine sqA rfl rfl ?_
    refine sq_nil ?_
    refine se_block ?_
    refine se_seq ?_
    refine scK [0, 4, 8, 9, 10, 11, 12, 13, 14, 15, 16, 26, 27, 28, 29, 30] rfl ?_
    refine sc_seq ?_
    refine scR ?_
    refine sqM rfl rfl ?_
    refine sq_split (q_neq rfl rfl) rfl (fun h110_1 => ?_) (fun h110_1 => ?_)
    ·
     have _tok := trivial
     refine sqK [0, 4, 8, 9, 10, 11, 12, 13, 14, 15, 16, 26, 27, 28, 29, 30, 498] rfl ?_
     refine sc_cond_t rfl ?_
     refine scR ?_
     iterate 2 refine sqM rfl rfl ?_
     refine sq_q (q_iface rfl Tryd.runUnderlying75 rfl) rfl ?_
     refine sq_q (q_build (vs := [(0, _), (1, _), (2, _)]) ⟨rfl, rfl, rfl, rfl, rfl, rfl, trivial⟩ b139) rfl ?_
     refine sq_m (m_box rfl rfl) rfl (fun _ _ => ?_)
     refine sq_q (q_iface rfl Tryd.runUnderlying137 rfl) rfl ?_
     iterate 2 refine sqA rfl rfl ?_
     refine sqK [2, 3] rfl ?_
     refine sc_ret ?_
     iterate 2 refine se_then_ret ?_
     exact se_end (res2 Tryd.results22 rfl rfl) (fun w' hw => .inl ⟨hbad, ⟨_, _, _, rfl⟩, hw.eff⟩)
    refine sqK [0, 4, 8, 9, 10, 11, 12, 13, 14, 15, 16, 26, 27, 28, 29, 30, 498] rfl ?_
    refine sc_cond_f rfl ?_
    refine scS ?_
    refine scK [0, 4, 8, 9, 10, 11, 12, 13, 14, 15, 16, 26, 28, 29, 30] rfl ?_
    refine sc_seq ?_
    refine scR ?_
    refine sqM rfl rfl ?_
    refine sq_split (q_eql rfl rfl) rfl (fun h112_1 => ?_) (fun h112_1 => ?_)
    ·
     have _tok := trivial
     refine sqK [0, 4, 8, 9, 10, 11, 12, 13, 14, 15, 16, 26, 28, 29, 30, 506] rfl ?_
     refine sc_cond_t rfl ?_
     refine sc_seq ?_
     refine scR ?_
     refine sqM rfl rfl ?_
     refine sq_split (q_lss rfl rfl) rfl (fun h113_1 => ?_) (fun h113_1 => ?_)
     ·
      have _tok := trivial
      refine sqK [0, 4, 8, 9, 10, 11, 12, 13, 14, 15, 16, 26, 28, 29, 30, 508] rfl ?_
      refine sc_cond_t rfl ?_
      refine scR ?_
      iterate 2 refine sqM rfl rfl ?_
      refine sq_q (q_iface rfl Tryd.runUnderlying3 rfl) rfl ?_
      refine sq_q (q_build (vs := [(0, _), (1, _), (2, _)]) ⟨rfl, rfl, rfl, rfl, rfl, rfl, trivial⟩ b139) rfl ?_
      refine sq_m (m_box rfl rfl) rfl (fun _ _ => ?_)
      refine sq_q (q_iface rfl Tryd.runUnderlying137 rfl) rfl ?_
      iterate 2 refine sqA rfl rfl ?_
      refine sqK [2, 3] rfl ?_
      refine sc_ret ?_
      iterate 3 refine se_then_ret ?_
      exact se_end (res2 Tryd.results22 rfl rfl) (fun w' hw => .inl ⟨hbad, ⟨_, _, _, rfl⟩, hw.eff⟩)
     refine sqK [0, 4, 8, 9, 10, 11, 12, 13, 14, 15, 16, 26, 28, 29, 30, 508] rfl ?_
     refine sc_cond_f rfl ?_
     refine scS ?_
     refine scK [0, 4, 8, 9, 10, 11, 12, 13, 14, 16, 26, 28, 29, 30] rfl ?_
     refine sc_region ?_
     refine sqM rfl rfl ?_
     refine sq_q (q_conv rfl Tryd.runUnderlying23 Tryd.runUnderlying3 rfl) rfl ?_
     have hsz : 65280 ≤ IntKind.i64.wrap ((fld big xs 20 4 : Nat) : Int) ∨ IntKind.i64.wrap ((fld big xs 20 4 : Nat) : Int) < 0 := by rw [IntKind.wrap_i64]; omega
     have hsz2 : IntKind.i64.wrap ((fld big xs 20 4 : Nat) : Int) ≤ 9223372036854775807 ∧ -9223372036854775808 ≤ IntKind.i64.wrap ((fld big xs 20 4 : Nat) : Int) := by rw [IntKind.wrap_i64]; omega
     refine sqA rfl rfl ?_
     refine sqK [0, 4, 8, 9, 10, 11, 12, 13, 14, 15, 16, 26, 28, 29] rfl ?_
     refine sc_seq ?_
     refine scR ?_
     refine sqM rfl rfl ?_
     refine sq_split (q_eql rfl rfl) rfl (fun h116_1 => ?_) (fun h116_1 => ?_)
     ·
      have hpn2 : (hd bs).phnum = 65535 := by omega
      have hes2 : 32 ≤ (hd bs).phes := by have := hchk.phe; rw [hwd] at this; exact this (by omega)
      refine sqK [0, 4, 8, 9, 10, 11, 12, 13, 14, 15, 16, 26, 28, 29, 518] rfl ?_
      refine sc_cond_t rfl ?_
      refine sc_seq ?_
      refine scR ?_
      refine sqM rfl rfl ?_
      refine sq_split (q_lss rfl rfl) rfl (fun h117_1 => ?_) (fun h117_1 => ?_)
      ·
       have _tok := trivial
       refine sqK [0, 4, 8, 9, 10, 11, 13, 14, 15, 16, 26, 28, 29, 520] rfl ?_
       refine sc_cond_t rfl ?_
       refine scR ?_
       iterate 2 refine sqM rfl rfl ?_
       refine sq_q (q_iface rfl Tryd.runUnderlying74 rfl) rfl ?_
       refine sq_q (q_build (vs := [(0, _), (1, _), (2, _)]) ⟨rfl, rfl, rfl, rfl, rfl, rfl, trivial⟩ b139) rfl ?_
       refine sq_m (m_box rfl rfl) rfl (fun _ _ => ?_)
       refine sq_q (q_iface rfl Tryd.runUnderlying137 rfl) rfl ?_
       iterate 2 refine sqA rfl rfl ?_
       refine sqK [2, 3] rfl ?_
       refine sc_ret ?_
       iterate 3 refine se_then_ret ?_
       exact se_end (res2 Tryd.results22 rfl rfl) (fun w' hw => .inl ⟨hbad, ⟨_, _, _, rfl⟩, hw.eff⟩)
      refine sqK [0, 4, 8, 9, 10, 11, 13, 14, 15, 16, 26, 28, 29, 520] rfl ?_
      refine sc_cond_f rfl ?_
      refine scS ?_
      refine scK [0, 4, 8, 9, 10, 11, 13, 14, 15, 16, 26, 28, 29] rfl ?_
      refine sc_region ?_
      refine sqM rfl rfl ?_
      refine sq_q (q_conv rfl Tryd.runUnderlying74 Tryd.runUnderlying3 (w_i64 (by omega) (by omega))) rfl ?_
      refine sqA rfl rfl ?_
      refine sqKR [0, 4, 8, 9, 10, 11, 12, 13, 14, 15, 16, 26, 28] rfl ?_
      refine sqM rfl rfl ?_
      refine sq_split (q_eql rfl rfl) rfl (fun h120_1 => ?_) (fun h120_1 => ?_)
      ·
       have _tok := trivial
       refine sqK [0, 4, 8, 9, 10, 11, 12, 13, 14, 15, 16, 26, 28, 530] rfl ?_
       refine sc_cond_t rfl ?_
       refine scR ?_
       refine sqM rfl rfl ?_
       refine sq_q (q_conv rfl Tryd.runUnderlying74 Tryd.runUnderlying3 (w_i64 (by omega) (by omega))) rfl ?_
       refine sqA rfl rfl ?_
       refine sqKR [0, 4, 8, 9, 10, 11, 12, 13, 14, 15, 16, 26] rfl ?_
       refine sqM rfl rfl ?_
       refine sq_split (q_lss rfl rfl) rfl (fun h122_1 => ?_) (fun h122_1 => ?_)
       ·
        have _tok := trivial
        refine sqM rfl rfl ?_
        iterate 3 refine sq_gn rfl rfl rfl rfl ?_
        refine sqT rfl rfl rfl ?_
        refine sqK [0, 4, 8, 9, 10, 11, 12, 13, 14, 15, 16, 26, 539] rfl ?_
        refine sc_cond_t rfl ?_
        refine scR ?_
        iterate 2 refine sqM rfl rfl ?_
        refine sq_q (q_iface rfl Tryd.runUnderlying3 rfl) rfl ?_
        refine sq_q (q_build (vs := [(0, _), (1, _), (2, _)]) ⟨rfl, rfl, rfl, rfl, rfl, rfl, trivial⟩ b139) rfl ?_
        refine sq_m (m_box rfl rfl) rfl (fun _ _ => ?_)
        refine sq_q (q_iface rfl Tryd.runUnderlying137 rfl) rfl ?_
        iterate 2 refine sqA rfl rfl ?_
        refine sqK [2, 3] rfl ?_
        refine sc_ret ?_
        refine se_then_ret ?_
        exact se_end (res2 Tryd.results22 rfl rfl) (fun w' hw => .inl ⟨hbad, ⟨_, _, _, rfl⟩, hw.eff⟩)
       refine sqM rfl rfl ?_
       refine sq_gy rfl rfl rfl ?_
       refine sqM rfl rfl ?_
       refine sq_gy rfl rfl rfl ?_
       refine sqM rfl rfl ?_
       refine sq_gy rfl rfl rfl ?_
       refine sq_split (q_geq rfl rfl) rfl (fun h122_5 => ?_) (fun h122_5 => ?_)
       ·
        have _tok := trivial
        refine sqF rfl rfl rfl ?_
        refine sqK [0, 4, 8, 9, 10, 11, 12, 13, 14, 15, 16, 26, 539] rfl ?_
        refine sc_cond_t rfl ?_
        refine scR ?_
        iterate 2 refine sqM rfl rfl ?_
        refine sq_q (q_iface rfl Tryd.runUnderlying3 rfl) rfl ?_
        refine sq_q (q_build (vs := [(0, _), (1, _), (2, _)]) ⟨rfl, rfl, rfl, rfl, rfl, rfl, trivial⟩ b139) rfl ?_
        refine sq_m (m_box rfl rfl) rfl (fun _ _ => ?_)
        refine sq_q (q_iface rfl Tryd.runUnderlying137 rfl) rfl ?_
        iterate 2 refine sqA rfl rfl ?_
        refine sqK [2, 3] rfl ?_
        refine sc_ret ?_
        refine se_then_ret ?_
        exact se_end (res2 Tryd.results22 rfl rfl) (fun w' hw => .inl ⟨hbad, ⟨_, _, _, rfl⟩, hw.eff⟩)
       refine sqF rfl rfl rfl ?_
       refine sqK [0, 4, 8, 9, 10, 11, 12, 13, 14, 15, 16, 26, 539] rfl ?_
       refine sc_cond_f rfl ?_
       refine scS ?_
       iterate 2 refine scK [0, 4, 8, 9, 10, 11, 12, 13, 14, 15, 16, 26] rfl ?_
       refine sc_mem (fun _ h => h.drop_swap) ?_
       exact hE big _ fp sb _ _ _ _ _ hchk hbig hwd hfp hsb (by omega) (by omega) (by omega) (by omega) (by omega) (.inr ⟨hbad, .inl ⟨by omega, by omega⟩⟩)
      refine sqK [0, 4, 8, 9, 10, 11, 12, 13, 14, 15, 16, 26, 28, 530] rfl ?_
      refine sc_cond_f rfl ?_
      refine scS ?_
      iterate 2 refine scK [0, 4, 8, 9, 10, 11, 12, 13, 14, 15, 16, 26] rfl ?_
      refine sc_mem (fun _ h => h.drop_swap) ?_
      exact hE big _ fp sb _ _ _ _ _ hchk hbig hwd hfp hsb (by omega) (by omega) (by omega) (by omega) (by omega) (.inr ⟨hbad, .inl ⟨by omega, by omega⟩⟩)
     refine sqK [0, 4, 8, 9, 10, 11, 12, 13, 14, 15, 16, 26, 28, 29, 518] rfl ?_
     refine sc_cond_f rfl ?_
     refine scS ?_
     refine scK [0, 4, 8, 9, 10, 11, 12, 13, 14, 15, 16, 26, 28] rfl ?_
     refine scR ?_
     refine sqM rfl rfl ?_
     refine sq_split (q_eql rfl rfl) rfl (fun h120_1 => ?_) (fun h120_1 => ?_)
     ·
      have _tok := trivial
      refine sqK [0, 4, 8, 9, 10, 11, 12, 13, 14, 15, 16, 26, 28, 530] rfl ?_
      refine sc_cond_t rfl ?_
      refine scR ?_
      refine sqM rfl rfl ?_
      refine sq_q (q_conv rfl Tryd.runUnderlying74 Tryd.runUnderlying3 (w_i64 (by omega) (by omega))) rfl ?_
      refine sqA rfl rfl ?_
      refine sqKR [0, 4, 8, 9, 10, 11, 12, 13, 14, 15, 16, 26] rfl ?_
      refine sqM rfl rfl ?_
      refine sq_split (q_lss rfl rfl) rfl (fun h122_1 => ?_) (fun h122_1 => ?_)
      ·
       have _tok := trivial
       refine sqM rfl rfl ?_
       iterate 3 refine sq_gn rfl rfl rfl rfl ?_
       refine sqT rfl rfl rfl ?_
       refine sqK [0, 4, 8, 9, 10, 11, 12, 13, 14, 15, 16, 26, 539] rfl ?_
       refine sc_cond_t rfl ?_
       refine scR ?_
       iterate 2 refine sqM rfl rfl ?_
       refine sq_q (q_iface rfl Tryd.runUnderlying3 rfl) rfl ?_
       refine sq_q (q_build (vs := [(0, _), (1, _), (2, _)]) ⟨rfl, rfl, rfl, rfl, rfl, rfl, trivial⟩ b139) rfl ?_
       refine sq_m (m_box rfl rfl) rfl (fun _ _ => ?_)
       refine sq_q (q_iface rfl Tryd.runUnderlying137 rfl) rfl ?_
       iterate 2 refine sqA rfl rfl ?_
       refine sqK [2, 3] rfl ?_
       refine sc_ret ?_
       refine se_then_ret ?_
       exact se_end (res2 Tryd.results22 rfl rfl) (fun w' hw => .inl ⟨hbad, ⟨_, _, _, rfl⟩, hw.eff⟩)
      refine sqM rfl rfl ?_
      refine sq_gy rfl rfl rfl ?_
      refine sqM rfl rfl ?_
      refine sq_gy rfl rfl rfl ?_
      refine sqM rfl rfl ?_
      refine sq_gy rfl rfl rfl ?_
      refine sq_split (q_geq rfl rfl) rfl (fun h122_5 => ?_) (fun h122_5 => ?_)
      ·
       have _tok := trivial
       refine sqF rfl rfl rfl ?_
       refine sqK [0, 4, 8, 9, 10, 11, 12, 13, 14, 15, 16, 26, 539] rfl ?_
       refine sc_cond_t rfl ?_
       refine scR ?_
       iterate 2 refine sqM rfl rfl ?_
       refine sq_q (q_iface rfl Tryd.runUnderlying3 rfl) rfl ?_
       refine sq_q (q_build (vs := [(0, _), (1, _), (2, _)]) ⟨rfl, rfl, rfl, rfl, rfl, rfl, trivial⟩ b139) rfl ?_
       refine sq_m (m_box rfl rfl) rfl (fun _ _ => ?_)
       refine sq_q (q_iface rfl Tryd.runUnderlying137 rfl) rfl ?_
       iterate 2 refine sqA rfl rfl ?_
       refine sqK [2, 3] rfl ?_
       refine sc_ret ?_
       refine se_then_ret ?_
       exact se_end (res2 Tryd.results22 rfl rfl) (fun w' hw => .inl ⟨hbad, ⟨_, _, _, rfl⟩, hw.eff⟩)
      refine sqF rfl rfl rfl ?_
      refine sqK [0, 4, 8, 9, 10, 11, 12, 13, 14, 15, 16, 26, 539] rfl ?_
      refine sc_cond_f rfl ?_
      refine scS ?_
      iterate 2 refine scK [0, 4, 8, 9, 10, 11, 12, 13, 14, 15, 16, 26] rfl ?_
      refine sc_mem (fun _ h => h.drop_swap) ?_
      exact hE big _ fp sb _ _ _ _ _ hchk hbig hwd hfp hsb (by omega) (by omega) (by omega) (by omega) (by omega) (.inr ⟨hbad, .inl ⟨by omega, by omega⟩⟩)
     refine sqK [0, 4, 8, 9, 10, 11, 12, 13, 14, 15, 16, 26, 28, 530] rfl ?_
     refine sc_cond_f rfl ?_
     refine scS ?_
     iterate 2 refine scK [0, 4, 8, 9, 10, 11, 12, 13, 14, 15, 16, 26] rfl ?_
     refine sc_mem (fun _ h => h.drop_swap) ?_
     exact hE big _ fp sb _ _ _ _ _ hchk hbig hwd hfp hsb (by omega) (by omega) (by omega) (by omega) (by omega) (.inr ⟨hbad, .inl ⟨by omega, by omega⟩⟩)
    refine sqK [0, 4, 8, 9, 10, 11, 12, 13, 14, 15, 16, 26, 28, 29, 30, 506] rfl ?_
    refine sc_cond_f rfl ?_
    refine scS ?_
    refine scK [0, 4, 8, 9, 10, 11, 12, 13, 14, 15, 16, 26, 28, 29] rfl ?_
    refine sc_seq ?_
    refine scR ?_
    refine sqM rfl rfl ?_
    refine sq_split (q_eql rfl rfl) rfl (fun h116_1 => ?_) (fun h116_1 => ?_)
    ·
     have hpn2 : (hd bs).phnum = 65535 := by omega
     have hes2 : 32 ≤ (hd bs).phes := by have := hchk.phe; rw [hwd] at this; exact this (by omega)
     refine sqK [0, 4, 8, 9, 10, 11, 12, 13, 14, 15, 16, 26, 28, 29, 518] rfl ?_
     refine sc_cond_t rfl ?_
     refine sc_seq ?_
     refine scR ?_
     refine sqM rfl rfl ?_
     refine sq_split (q_lss rfl rfl) rfl (fun h117_1 => ?_) (fun h117_1 => ?_)
     ·
      have _tok := trivial
      refine sqK [0, 4, 8, 9, 10, 11, 13, 14, 15, 16, 26, 28, 29, 520] rfl ?_
      refine sc_cond_t rfl ?_
      refine scR ?_
      iterate 2 refine sqM rfl rfl ?_
      refine sq_q (q_iface rfl Tryd.runUnderlying74 rfl) rfl ?_
      refine sq_q (q_build (vs := [(0, _), (1, _), (2, _)]) ⟨rfl, rfl, rfl, rfl, rfl, rfl, trivial⟩ b139) rfl ?_
      refine sq_m (m_box rfl rfl) rfl (fun _ _ => ?_)
      refine sq_q (q_iface rfl Tryd.runUnderlying137 rfl) rfl ?_
      iterate 2 refine sqA rfl rfl ?_
      refine sqK [2, 3] rfl ?_
      refine sc_ret ?_
      iterate 3 refine se_then_ret ?_
      exact se_end (res2 Tryd.results22 rfl rfl) (fun w' hw => .inl ⟨hbad, ⟨_, _, _, rfl⟩, hw.eff⟩)
     refine sqK [0, 4, 8, 9, 10, 11, 13, 14, 15, 16, 26, 28, 29, 520] rfl ?_
     refine sc_cond_f rfl ?_
     refine scS ?_
     refine scK [0, 4, 8, 9, 10, 11, 13, 14, 15, 16, 26, 28, 29] rfl ?_
     refine sc_region ?_
     refine sqM rfl rfl ?_
     refine sq_q (q_conv rfl Tryd.runUnderlying74 Tryd.runUnderlying3 (w_i64 (by omega) (by omega))) rfl ?_
     refine sqA rfl rfl ?_
     refine sqKR [0, 4, 8, 9, 10, 11, 12, 13, 14, 15, 16, 26, 28] rfl ?_
     refine sqM rfl rfl ?_
     refine sq_split (q_eql rfl rfl) rfl (fun h120_1 => ?_) (fun h120_1 => ?_)
     ·
      have _tok := trivial
      refine sqK [0, 4, 8, 9, 10, 11, 12, 13, 14, 15, 16, 26, 28, 530] rfl ?_
      refine sc_cond_t rfl ?_
      refine scR ?_
      refine sqM rfl rfl ?_
      refine sq_q (q_conv rfl Tryd.runUnderlying74 Tryd.runUnderlying3 (w_i64 (by omega) (by omega))) rfl ?_
      refine sqA rfl rfl ?_
      refine sqKR [0, 4, 8, 9, 10, 11, 12, 13, 14, 15, 16, 26] rfl ?_
      refine sqM rfl rfl ?_
      refine sq_split (q_lss rfl rfl) rfl (fun h122_1 => ?_) (fun h122_1 => ?_)
      ·
       have _tok := trivial
       refine sqM rfl rfl ?_
       iterate 3 refine sq_gn rfl rfl rfl rfl ?_
       refine sqT rfl rfl rfl ?_
       refine sqK [0, 4, 8, 9, 10, 11, 12, 13, 14, 15, 16, 26, 539] rfl ?_
       refine sc_cond_t rfl ?_
       refine scR ?_
       iterate 2 refine sqM rfl rfl ?_
       refine sq_q (q_iface rfl Tryd.runUnderlying3 rfl) rfl ?_
       refine sq_q (q_build (vs := [(0, _), (1, _), (2, _)]) ⟨rfl, rfl, rfl, rfl, rfl, rfl, trivial⟩ b139) rfl ?_
       refine sq_m (m_box rfl rfl) rfl (fun _ _ => ?_)
       refine sq_q (q_iface rfl Tryd.runUnderlying137 rfl) rfl ?_
       iterate 2 refine sqA rfl rfl ?_
       refine sqK [2, 3] rfl ?_
       refine sc_ret ?_
       refine se_then_ret ?_
       exact se_end (res2 Tryd.results22 rfl rfl) (fun w' hw => .inl ⟨hbad, ⟨_, _, _, rfl⟩, hw.eff⟩)
      refine sqM rfl rfl ?_
      refine sq_gy rfl rfl rfl ?_
      refine sqM rfl rfl ?_
      refine sq_gy rfl rfl rfl ?_
      refine sqM rfl rfl ?_
      refine sq_gy rfl rfl rfl ?_
      refine sq_split (q_geq rfl rfl) rfl (fun h122_5 => ?_) (fun h122_5 => ?_)
      ·
       have _tok := trivial
       refine sqF rfl rfl rfl ?_
       refine sqK [0, 4, 8, 9, 10, 11, 12, 13, 14, 15, 16, 26, 539] rfl ?_
       refine sc_cond_t rfl ?_
       refine scR ?_
       iterate 2 refine sqM rfl rfl ?_
       refine sq_q (q_iface rfl Tryd.runUnderlying3 rfl) rfl ?_
       refine sq_q (q_build (vs := [(0, _), (1, _), (2, _)]) ⟨rfl, rfl, rfl, rfl, rfl, rfl, trivial⟩ b139) rfl ?_
       refine sq_m (m_box rfl rfl) rfl (fun _ _ => ?_)
       refine sq_q (q_iface rfl Tryd.runUnderlying137 rfl) rfl ?_
       iterate 2 refine sqA rfl rfl ?_
       refine sqK [2, 3] rfl ?_
       refine sc_ret ?_
       refine se_then_ret ?_
       exact se_end (res2 Tryd.results22 rfl rfl) (fun w' hw => .inl ⟨hbad, ⟨_, _, _, rfl⟩, hw.eff⟩)
      refine sqF rfl rfl rfl ?_
      refine sqK [0, 4, 8, 9, 10, 11, 12, 13, 14, 15, 16, 26, 539] rfl ?_
      refine sc_cond_f rfl ?_
      refine scS ?_
      iterate 2 refine scK [0, 4, 8, 9, 10, 11, 12, 13, 14, 15, 16, 26] rfl ?_
      refine sc_mem (fun _ h => h.drop_swap) ?_
      exact hE big _ fp sb _ _ _ _ _ hchk hbig hwd hfp hsb (by omega) (by omega) (by omega) (by omega) (by omega) (.inr ⟨hbad, .inl ⟨by omega, by omega⟩⟩)
     refine sqK [0, 4, 8, 9, 10, 11, 12, 13, 14, 15, 16, 26, 28, 530] rfl ?_
     refine sc_cond_f rfl ?_
     refine scS ?_
     iterate 2 refine scK [0, 4, 8, 9, 10, 11, 12, 13, 14, 15, 16, 26] rfl ?_
     refine sc_mem (fun _ h => h.drop_swap) ?_
     exact hE big _ fp sb _ _ _ _ _ hchk hbig hwd hfp hsb (by omega) (by omega) (by omega) (by omega) (by omega) (.inr ⟨hbad, .inl ⟨by omega, by omega⟩⟩)
    refine sqK [0, 4, 8, 9, 10, 11, 12, 13, 14, 15, 16, 26, 28, 29, 518] rfl ?_
    refine sc_cond_f rfl ?_
    refine scS ?_
    refine scK [0, 4, 8, 9, 10, 11, 12, 13, 14, 15, 16, 26, 28] rfl ?_
    refine scR ?_
    refine sqM rfl rfl ?_
    refine sq_split (q_eql rfl rfl) rfl (fun h120_1 => ?_) (fun h120_1 => ?_)
    ·
     have _tok := trivial
     refine sqK [0, 4, 8, 9, 10, 11, 12, 13, 14, 15, 16, 26, 28, 530] rfl ?_
     refine sc_cond_t rfl ?_
     refine scR ?_
     refine sqM rfl rfl ?_
     refine sq_q (q_conv rfl Tryd.runUnderlying74 Tryd.runUnderlying3 (w_i64 (by omega) (by omega))) rfl ?_
     refine sqA rfl rfl ?_
     refine sqKR [0, 4, 8, 9, 10, 11, 12, 13, 14, 15, 16, 26] rfl ?_
     refine sqM rfl rfl ?_
     refine sq_split (q_lss rfl rfl) rfl (fun h122_1 => ?_) (fun h122_1 => ?_)
     ·
      have _tok := trivial
      refine sqM rfl rfl ?_
      iterate 3 refine sq_gn rfl rfl rfl rfl ?_
      refine sqT rfl rfl rfl ?_
      refine sqK [0, 4, 8, 9, 10, 11, 12, 13, 14, 15, 16, 26, 539] rfl ?_
      refine sc_cond_t rfl ?_
      refine scR ?_
      iterate 2 refine sqM rfl rfl ?_
      refine sq_q (q_iface rfl Tryd.runUnderlying3 rfl) rfl ?_
      refine sq_q (q_build (vs := [(0, _), (1, _), (2, _)]) ⟨rfl, rfl, rfl, rfl, rfl, rfl, trivial⟩ b139) rfl ?_
      refine sq_m (m_box rfl rfl) rfl (fun _ _ => ?_)
      refine sq_q (q_iface rfl Tryd.runUnderlying137 rfl) rfl ?_
      iterate 2 refine sqA rfl rfl ?_
      refine sqK [2, 3] rfl ?_
      refine sc_ret ?_
      refine se_then_ret ?_
      exact se_end (res2 Tryd.results22 rfl rfl) (fun w' hw => .inl ⟨hbad, ⟨_, _, _, rfl⟩, hw.eff⟩)
     refine sqM rfl rfl ?_
     refine sq_gy rfl rfl rfl ?_
     refine sqM rfl rfl ?_
     refine sq_gy rfl rfl rfl ?_
     refine sqM rfl rfl ?_
     refine sq_gy rfl rfl rfl ?_
     refine sq_split (q_geq rfl rfl) rfl (fun h122_5 => ?_) (fun h122_5 => ?_)
     ·
      have _tok := trivial
      refine sqF rfl rfl rfl ?_
      refine sqK [0, 4, 8, 9, 10, 11, 12, 13, 14, 15, 16, 26, 539] rfl ?_
      refine sc_cond_t rfl ?_
      refine scR ?_
      iterate 2 refine sqM rfl rfl ?_
      refine sq_q (q_iface rfl Tryd.runUnderlying3 rfl) rfl ?_
      refine sq_q (q_build (vs := [(0, _), (1, _), (2, _)]) ⟨rfl, rfl, rfl, rfl, rfl, rfl, trivial⟩ b139) rfl ?_
      refine sq_m (m_box rfl rfl) rfl (fun _ _ => ?_)
      refine sq_q (q_iface rfl Tryd.runUnderlying137 rfl) rfl ?_
      iterate 2 refine sqA rfl rfl ?_
      refine sqK [2, 3] rfl ?_
      refine sc_ret ?_
      refine se_then_ret ?_
      exact se_end (res2 Tryd.results22 rfl rfl) (fun w' hw => .inl ⟨hbad, ⟨_, _, _, rfl⟩, hw.eff⟩)
     refine sqF rfl rfl rfl ?_
     refine sqK [0, 4, 8, 9, 10, 11, 12, 13, 14, 15, 16, 26, 539] rfl ?_
     refine sc_cond_f rfl ?_
     refine scS ?_
     iterate 2 refine scK [0, 4, 8, 9, 10, 11, 12, 13, 14, 15, 16, 26] rfl ?_
     refine sc_mem (fun _ h => h.drop_swap) ?_
     exact hE big _ fp sb _ _ _ _ _ hchk hbig hwd hfp hsb (by omega) (by omega) (by omega) (by omega) (by omega) (.inr ⟨hbad, .inl ⟨by omega, by omega⟩⟩)
    refine sqK [0, 4, 8, 9, 10, 11, 12, 13, 14, 15, 16, 26, 28, 530] rfl ?_
    refine sc_cond_f rfl ?_
    refine scS ?_
    iterate 2 refine scK [0, 4, 8, 9, 10, 11, 12, 13, 14, 15, 16, 26] rfl ?_
    refine sc_mem (fun _ h => h.drop_swap) ?_
    exact hE big _ fp sb _ _ _ _ _ hchk hbig hwd hfp hsb (by omega) (by omega) (by omega) (by omega) (by omega) (.inl ⟨rfl, rfl, rfl, by omega⟩)
   dsimp only at hv hmm
   subst hv hmm
   refine sqKR [0, 4, 8, 9, 10, 11, 12, 13, 14, 15, 16, 26, 31, 32] rfl ?_
   refine sqM rfl rfl ?_
   refine sq_q (q_iface_neq_nil rfl rfl Tryd.runUnderlying86) rfl ?_
   refine sqK [0, 4, 8, 9, 10, 11, 12, 13, 14, 15, 16, 26, 31, 32, 451] rfl ?_
   refine sc_cond_t rfl ?_
   refine scR ?_
   refine sqM rfl rfl ?_
   iterate 2 refine sqA rfl rfl ?_
   refine sqK [2, 3] rfl ?_
   refine sc_ret ?_
   refine se_then_ret ?_
   refine se_block_ret ?_
   iterate 2 refine se_then_ret ?_
   exact se_end (res2 Tryd.results22 rfl rfl) (fun w' hw => .inl ⟨hbad, ⟨_, _, _, rfl⟩, hw.eff⟩)
  refine sq_gy rfl rfl rfl ?_
  refine sqF rfl rfl rfl ?_
  refine sqT rfl rfl rfl ?_
  refine sqK [0, 4, 8, 9, 10, 11, 12, 13, 14, 15, 16, 26, 433] rfl ?_
  refine sc_cond_f rfl ?_
  refine scS ?_
  iterate 2 refine scK [0, 4, 8, 9, 10, 11, 12, 13, 14, 15, 16, 26] rfl ?_
  exact hE big _ fp sb _ _ _ _ _ hchk hbig hwd hfp hsb (by omega) (by omega) (by omega) (by omega) (by omega) (.inl ⟨rfl, rfl, rfl, by omega⟩)
 refine sqM rfl rfl ?_
 iterate 3 refine sq_gn rfl rfl rfl rfl ?_
 iterate 2 refine sq_gu rfl rfl rfl ?_
 refine sq_gn rfl rfl rfl rfl ?_
 refine sqF rfl rfl rfl ?_
 refine sqK [0, 4, 8, 9, 10, 11, 12, 13, 14, 15, 16, 26, 433] rfl ?_
 refine sc_cond_f rfl ?_
 refine scS ?_
 iterate 2 refine scK [0, 4, 8, 9, 10, 11, 12, 13, 14, 15, 16, 26] rfl ?_
 exact hE big _ fp sb _ _ _ _ _ hchk hbig hwd hfp hsb (by omega) (by omega) (by omega) (by omega) (by omega) (.inl ⟨rfl, rfl, rfl, by omega⟩)

theorem nf_d_true {g gu : Gx} {bs : List UInt8} {u : Value} {ms : MM} {w0 : World} (cx : Cx g gu bs u ms w0) (hE : StE g gu bs u ms w0) : ∀ big fp sb N, ChkOk bs → isBig bs = big → isWide bs = true → w0.heap.size ≤ fp → w0.heap.size ≤ sb →
 Sc Tryd.prog r28 (bodyPost Tryd.prog Tryd.f22 (NF bs u ((1, g.o) :: (0, gu.o) :: ms) w0)) 1287 w0 E0 [(0, .iface 117 u), (4, .pointer (some ⟨sb, 0, none⟩)), (8, .pointer (some ⟨fp, 0, none⟩)), (9, .int .u8 (ordN big)), (10, .int .i64 ((hd bs).phoff : Int)), (11, .int .i64 ((hd bs).phes : Int)), (12, .int .i64 ((hd bs).phnum : Int)), (13, .int .i64 ((hd bs).shoff : Int)), (14, .int .i64 ((hd bs).shes : Int)), (15, .int .i64 ((hd bs).shnum : Int)), (16, .int .i64 ((hd bs).names : Int)), (26, .int .i64 ((wd true 40 64 : Nat) : Int))] N
  ((fp, fileO bs big (hd bs).type (hd bs).machine (hd bs).entry (.slice none 0 0) (.slice none 0 0)) :: (sb, rdO u 0 9223372036854775807) :: (1, g.o) :: (0, gu.o) :: ms) := by
 intro big fp sb N hchk hbig hwd hfp hsb
 have c4 : bv bs 4 = 2 := by have := hchk.rd.id.cls; simp [isWide] at hwd; omega
 have hph := hchk.ph
 have hsh := hchk.sh
 have blen := cx.len
 refine sc_known fun hnd0 hge0 hlt0 => ?_
 obtain ⟨hl1, hl2, hl3, hl4, hl5, hl6, hl7, hl8, hl9, hl10, hl11⟩ := hd_lt bs
 refine sc_seq ?_
 refine scR ?_
 refine sqM rfl rfl ?_
 refine sq_split (q_gtr rfl rfl) rfl (fun h87_1 => ?_) (fun h87_1 => ?_)
 ·
  have _tok := trivial
  refine sqM rfl rfl ?_
  refine sq_gy rfl rfl rfl ?_
  refine sqM rfl rfl ?_
  refine sq_gy rfl rfl rfl ?_
  refine sq_split (q_eql rfl rfl) rfl (fun h87_4 => ?_) (fun h87_4 => ?_)
  ·
   have hbad : ¬ Good bs := fun hg => by have h9 := hg.head.zero; omega
   refine sq_gy rfl rfl rfl ?_
   refine sqM rfl rfl ?_
   iterate 2 refine sq_gn rfl rfl rfl rfl ?_
   refine sq_gy rfl rfl rfl ?_
   iterate 2 refine sqT rfl rfl rfl ?_
   refine sqK [0, 4, 8, 9, 10, 11, 12, 13, 14, 15, 16, 26, 433] rfl ?_
   refine sc_cond_t rfl ?_
   refine scR ?_
   iterate 3 refine sqA rfl rfl ?_
   refine sqKR [0, 4, 8, 9, 10, 11, 12, 13, 14, 15, 16, 26, 27, 28, 29] rfl ?_
   refine sqA rfl rfl ?_
   refine sqZ ?_
   refine scR ?_
   iterate 2 refine sqM rfl rfl ?_
   refine sq_m (seek_inv (i := 1) (off := (hd bs).shoff) (v := .iface 117 u) (by omega) rfl rfl rfl rfl rfl (fun h => absurd h (by omega))) rfl (fun _ _ => ?_)
   refine sqK [0, 4, 8, 9, 10, 11, 12, 13, 14, 15, 16, 26, 27, 28, 29, 30] rfl ?_
   refine sc_seq ?_
   refine scR ?_
   refine sqM rfl rfl ?_
   refine sq_q (q_nil rfl) rfl ?_
   refine sq_q (q_fieldj (j := 0) rfl Tryd.runUnderlying72 rfl Tryd.sizeOf66 rfl) rfl ?_
   refine sq_q (q_fieldj (j := 0) rfl Tryd.runUnderlying66 rfl Tryd.sizeOf57 rfl) rfl ?_
   refine sq_q (q_load1 rfl Tryd.isAgg57 (i := 0) rfl rfl) rfl ?_
   refine sqK [0, 4, 8, 9, 10, 11, 12, 13, 14, 15, 16, 26, 27, 28, 29, 30, 441] rfl ?_
   refine sc_block ?_
   refine scR ?_
   refine sq_q (q_decF (q_eql rfl rfl) (by omega)) rfl ?_
   refine sqA rfl rfl ?_
   refine sqK [0, 4, 8, 9, 10, 11, 12, 13, 14, 15, 16, 26, 27, 28, 29, 30, 441, 442] rfl ?_
   refine sc_cond_f rfl ?_
   refine scR ?_
   refine sq_q (q_decT (q_eql rfl rfl) (by omega)) rfl ?_
   refine sqA rfl rfl ?_
   refine sqK [0, 4, 8, 9, 10, 11, 12, 13, 14, 15, 16, 26, 27, 28, 29, 30, 470] rfl ?_
   refine sc_cond_t rfl ?_
   refine scR ?_
   refine sq_m (m_alloc (l := [.int .u32 0, .int .u32 0, .int .u64 0, .int .u64 0, .int .u64 0, .int .u64 0, .int .u32 0, .int .u32 0, .int .u64 0, .int .u64 0]) Tryd.zeroValue151 rfl) rfl (fun _ _ => ?_)
   refine sq_known fun hnd hge hlt => ?_
   refine sqA rfl rfl ?_
   refine sqK [0, 4, 8, 9, 10, 11, 12, 13, 14, 15, 16, 26, 33] rfl ?_
   refine sc_seq ?_
   refine scR ?_
   refine sqM rfl rfl ?_
   refine sq_q (q_iface rfl Tryd.runUnderlying81 rfl) rfl ?_
   iterate 2 refine sqM rfl rfl ?_
   refine sq_m (sec64_inv cx.rc big (limOf_le _ _) (by omega) (fun xs e ht he => tr_full cx.len (by omega) ht he) hnd rfl (fun k hk hl => absurd hl (by rcases hk with hk | hk <;> omega)) rfl rfl rfl) rfl (fun q hq => ?_)
   refine sqA rfl rfl ?_
   obtain ⟨v, xs, cur, N2, mm⟩ := q
   rcases hq with ⟨hxs, hv, hmm⟩ | ⟨⟨t2, u2, hv⟩, hmm⟩
   ·
    dsimp only at hv hmm
    subst hv hmm
    have f5 := fld8 big xs 32
    have f6 := fld4 big xs 40
    have f7 := fld4 big xs 44
    refine sqKR [0, 4, 8, 9, 10, 11, 12, 13, 14, 15, 16, 26, 33, 34] rfl ?_
    refine sqM rfl rfl ?_
    refine sq_q (q_nil_neq_nil rfl Tryd.runUnderlying86) rfl ?_
    refine sqK [0, 4, 8, 9, 10, 11, 12, 13, 14, 15, 16, 26, 33, 34, 479] rfl ?_
    refine sc_cond_f rfl ?_
    refine scS ?_
    refine scK [0, 4, 8, 9, 10, 11, 12, 13, 14, 15, 16, 26, 33] rfl ?_
    refine scR ?_
    refine sqM rfl rfl ?_
    refine sq_q (q_nil rfl) rfl ?_
    refine sq_q (q_fieldj (j := 5) rfl Tryd.runUnderlying151 rfl Tryd.sizeOf23 rfl) rfl ?_
    refine sq_q (q_load1 rfl Tryd.isAgg23 (i := 0) rfl rfl) rfl ?_
    refine sqA rfl rfl ?_
    refine sqKR [0, 4, 8, 9, 10, 11, 12, 13, 14, 15, 16, 26, 30, 33] rfl ?_
    refine sqM rfl rfl ?_
    refine sq_q (q_nil rfl) rfl ?_
    refine sq_q (q_fieldj (j := 1) rfl Tryd.runUnderlying151 rfl Tryd.sizeOf74 rfl) rfl ?_
    refine sq_q (q_load1 rfl Tryd.isAgg74 (i := 0) rfl rfl) rfl ?_
    refine sqA rfl rfl ?_
    refine sqKR [0, 4, 8, 9, 10, 11, 12, 13, 14, 15, 16, 26, 27, 30, 33] rfl ?_
    refine sqM rfl rfl ?_
    refine sq_q (q_nil rfl) rfl ?_
    refine sq_q (q_fieldj (j := 6) rfl Tryd.runUnderlying151 rfl Tryd.sizeOf74 rfl) rfl ?_
    refine sq_q (q_load1 rfl Tryd.isAgg74 (i := 0) rfl rfl) rfl ?_
    refine sqA rfl rfl ?_
    refine sqK [0, 4, 8, 9, 10, 11, 12, 13, 14, 15, 16, 26, 27, 28, 30, 33] rfl ?_
    refine sc_region ?_
    refine sqM rfl rfl ?_
    refine sq_q (q_nil rfl) rfl ?_
    refine sq_q (q_fieldj (j := 7) rfl Tryd.runUnderlying151 rfl Tryd.sizeOf74 rfl) rfl ?_
    refine sq_q (q_load1 rfl Tryd.isAgg74 (i := 0) rfl rfl) rfl ?_
    refine sqA rfl rfl ?_
    refine sq_nil ?_
    refine se_block ?_
    refine se_seq ?_
    refine scK [0, 4, 8, 9, 10, 11, 12, 13, 14, 15, 16, 26, 27, 28, 29, 30] rfl ?_
    refine sc_seq ?_
    refine scR ?_
    refine sqM rfl rfl ?_
    refine sq_split (q_neq rfl rfl) rfl (fun h110_1 => ?_) (fun h110_1 => ?_)
    ·
     have _tok := trivial
     refine sqK [0, 4, 8, 9, 10, 11, 12, 13, 14, 15, 16, 26, 27, 28, 29, 30, 498] rfl ?_
     refine sc_cond_t rfl ?_
     refine scR ?_
     iterate 2 refine sqM rfl rfl ?_
     refine sq_q (q_iface rfl Tryd.runUnderlying75 rfl) rfl ?_
     refine sq_q (q_build (vs := [(0, _), (1, _), (2, _)]) ⟨rfl, rfl, rfl, rfl, rfl, rfl, trivial⟩ b139) rfl ?_
     refine sq_m (m_box rfl rfl) rfl (fun _ _ => ?_)
     refine sq_q (q_iface rfl Tryd.runUnderlying137 rfl) rfl ?_
     iterate 2 refine sqA rfl rfl ?_
     refine sqK [2, 3] rfl ?_
     refine sc_ret ?_
     iterate 2 refine se_then_ret ?_
     exact se_end (res2 Tryd.results22 rfl rfl) (fun w' hw => .inl ⟨hbad, ⟨_, _, _, rfl⟩, hw.eff⟩)
    refine sqK [0, 4, 8, 9, 10, 11, 12, 13, 14, 15, 16, 26, 27, 28, 29, 30, 498] rfl ?_
    refine sc_cond_f rfl ?_
    refine scS ?_
    refine scK [0, 4, 8, 9, 10, 11, 12, 13, 14, 15, 16, 26, 28, 29, 30] rfl ?_
    refine sc_seq ?_
    refine scR ?_
    refine sqM rfl rfl ?_
    refine sq_split (q_eql rfl rfl) rfl (fun h112_1 => ?_) (fun h112_1 => ?_)
    ·
     have _tok := trivial
     refine sqK [0, 4, 8, 9, 10, 11, 12, 13, 14, 15, 16, 26, 28, 29, 30, 506] rfl ?_
     refine sc_cond_t rfl ?_
     refine sc_seq ?_
     refine scR ?_
     refine sqM rfl rfl ?_
     refine sq_split (q_lss rfl rfl) rfl (fun h113_1 => ?_) (fun h113_1 => ?_)
     ·
      have _tok := trivial
      refine sqK [0, 4, 8, 9, 10, 11, 12, 13, 14, 15, 16, 26, 28, 29, 30, 508] rfl ?_
      refine sc_cond_t rfl ?_
      refine scR ?_
      iterate 2 refine sqM rfl rfl ?_
      refine sq_q (q_iface rfl Tryd.runUnderlying3 rfl) rfl ?_
      refine sq_q (q_build (vs := [(0, _), (1, _), (2, _)]) ⟨rfl, rfl, rfl, rfl, rfl, rfl, trivial⟩ b139) rfl ?_
      refine sq_m (m_box rfl rfl) rfl (fun _ _ => ?_)
      refine sq_q (q_iface rfl Tryd.runUnderlying137 rfl) rfl ?_
      iterate 2 refine sqA rfl rfl ?_
      refine sqK [2, 3] rfl ?_
      refine sc_ret ?_
      iterate 3 refine se_then_ret ?_
      exact se_end (res2 Tryd.results22 rfl rfl) (fun w' hw => .inl ⟨hbad, ⟨_, _, _, rfl⟩, hw.eff⟩)
     refine sqK [0, 4, 8, 9, 10, 11, 12, 13, 14, 15, 16, 26, 28, 29, 30, 508] rfl ?_
     refine sc_cond_f rfl ?_
     refine scS ?_
     refine scK [0, 4, 8, 9, 10, 11, 12, 13, 14, 16, 26, 28, 29, 30] rfl ?_
     refine sc_region ?_
     refine sqM rfl rfl ?_
     refine sq_q (q_conv rfl Tryd.runUnderlying23 Tryd.runUnderlying3 rfl) rfl ?_
     have hsz : 65280 ≤ IntKind.i64.wrap ((fld big xs 32 8 : Nat) : Int) ∨ IntKind.i64.wrap ((fld big xs 32 8 : Nat) : Int) < 0 := by rw [IntKind.wrap_i64]; omega
     have hsz2 : IntKind.i64.wrap ((fld big xs 32 8 : Nat) : Int) ≤ 9223372036854775807 ∧ -9223372036854775808 ≤ IntKind.i64.wrap ((fld big xs 32 8 : Nat) : Int) := by rw [IntKind.wrap_i64]; omega
     refine sqA rfl rfl ?_
     refine sqK [0, 4, 8, 9, 10, 11, 12, 13, 14, 15, 16, 26, 28, 29] rfl ?_
     refine sc_seq ?_
     refine scR ?_
     refine sqM rfl rfl ?_
     refine sq_split (q_eql rfl rfl) rfl (fun h116_1 => ?_) (fun h116_1 => ?_)
     ·
      have hpn2 : (hd bs).phnum = 65535 := by omega
      have hes2 : 56 ≤ (hd bs).phes := by have := hchk.phe; rw [hwd] at this; exact this (by omega)
      refine sqK [0, 4, 8, 9, 10, 11, 12, 13, 14, 15, 16, 26, 28, 29, 518] rfl ?_
      refine sc_cond_t rfl ?_
      refine sc_seq ?_
      refine scR ?_
      refine sqM rfl rfl ?_
      refine sq_split (q_lss rfl rfl) rfl (fun h117_1 => ?_) (fun h117_1 => ?_)
      ·
       have _tok := trivial
       refine sqK [0, 4, 8, 9, 10, 11, 13, 14, 15, 16, 26, 28, 29, 520] rfl ?_
       refine sc_cond_t rfl ?_
       refine scR ?_
       iterate 2 refine sqM rfl rfl ?_
       refine sq_q (q_iface rfl Tryd.runUnderlying74 rfl) rfl ?_
       refine sq_q (q_build (vs := [(0, _), (1, _), (2, _)]) ⟨rfl, rfl, rfl, rfl, rfl, rfl, trivial⟩ b139) rfl ?_
       refine sq_m (m_box rfl rfl) rfl (fun _ _ => ?_)
       refine sq_q (q_iface rfl Tryd.runUnderlying137 rfl) rfl ?_
       iterate 2 refine sqA rfl rfl ?_
       refine sqK [2, 3] rfl ?_
       refine sc_ret ?_
       iterate 3 refine se_then_ret ?_
       exact se_end (res2 Tryd.results22 rfl rfl) (fun w' hw => .inl ⟨hbad, ⟨_, _, _, rfl⟩, hw.eff⟩)
      refine sqK [0, 4, 8, 9, 10, 11, 13, 14, 15, 16, 26, 28, 29, 520] rfl ?_
      refine sc_cond_f rfl ?_
      refine scS ?_
      refine scK [0, 4, 8, 9, 10, 11, 13, 14, 15, 16, 26, 28, 29] rfl ?_
      refine sc_region ?_
      refine sqM rfl rfl ?_
      refine sq_q (q_conv rfl Tryd.runUnderlying74 Tryd.runUnderlying3 (w_i64 (by omega) (by omega))) rfl ?_
      refine sqA rfl rfl ?_
      refine sqKR [0, 4, 8, 9, 10, 11, 12, 13, 14, 15, 16, 26, 28] rfl ?_
      refine sqM rfl rfl ?_
      refine sq_split (q_eql rfl rfl) rfl (fun h120_1 => ?_) (fun h120_1 => ?_)
      ·
       have _tok := trivial
       refine sqK [0, 4, 8, 9, 10, 11, 12, 13, 14, 15, 16, 26, 28, 530] rfl ?_
       refine sc_cond_t rfl ?_
       refine scR ?_
       refine sqM rfl rfl ?_
       refine sq_q (q_conv rfl Tryd.runUnderlying74 Tryd.runUnderlying3 (w_i64 (by omega) (by omega))) rfl ?_
       refine sqA rfl rfl ?_
       refine sqKR [0, 4, 8, 9, 10, 11, 12, 13, 14, 15, 16, 26] rfl ?_
       refine sqM rfl rfl ?_
       refine sq_split (q_lss rfl rfl) rfl (fun h122_1 => ?_) (fun h122_1 => ?_)
       ·
        have _tok := trivial
        refine sqM rfl rfl ?_
        iterate 3 refine sq_gn rfl rfl rfl rfl ?_
        refine sqT rfl rfl rfl ?_
        refine sqK [0, 4, 8, 9, 10, 11, 12, 13, 14, 15, 16, 26, 539] rfl ?_
        refine sc_cond_t rfl ?_
        refine scR ?_
        iterate 2 refine sqM rfl rfl ?_
        refine sq_q (q_iface rfl Tryd.runUnderlying3 rfl) rfl ?_
        refine sq_q (q_build (vs := [(0, _), (1, _), (2, _)]) ⟨rfl, rfl, rfl, rfl, rfl, rfl, trivial⟩ b139) rfl ?_
        refine sq_m (m_box rfl rfl) rfl (fun _ _ => ?_)
        refine sq_q (q_iface rfl Tryd.runUnderlying137 rfl) rfl ?_
        iterate 2 refine sqA rfl rfl ?_
        refine sqK [2, 3] rfl ?_
        refine sc_ret ?_
        refine se_then_ret ?_
        exact se_end (res2 Tryd.results22 rfl rfl) (fun w' hw => .inl ⟨hbad, ⟨_, _, _, rfl⟩, hw.eff⟩)
       refine sqM rfl rfl ?_
       refine sq_gy rfl rfl rfl ?_
       refine sqM rfl rfl ?_
       refine sq_gy rfl rfl rfl ?_
       refine sqM rfl rfl ?_
       refine sq_gy rfl rfl rfl ?_
       refine sq_split (q_geq rfl rfl) rfl (fun h122_5 => ?_) (fun h122_5 => ?_)
       ·
        have _tok := trivial
        refine sqF rfl rfl rfl ?_
        refine sqK [0, 4, 8, 9, 10, 11, 12, 13, 14, 15, 16, 26, 539] rfl ?_
        refine sc_cond_t rfl ?_
        refine scR ?_
        iterate 2 refine sqM rfl rfl ?_
        refine sq_q (q_iface rfl Tryd.runUnderlying3 rfl) rfl ?_
        refine sq_q (q_build (vs := [(0, _), (1, _), (2, _)]) ⟨rfl, rfl, rfl, rfl, rfl, rfl, trivial⟩ b139) rfl ?_
        refine sq_m (m_box rfl rfl) rfl (fun _ _ => ?_)
        refine sq_q (q_iface rfl Tryd.runUnderlying137 rfl) rfl ?_
        iterate 2 refine sqA rfl rfl ?_
        refine sqK [2, 3] rfl ?_
        refine sc_ret ?_
        refine se_then_ret ?_
        exact se_end (res2 Tryd.results22 rfl rfl) (fun w' hw => .inl ⟨hbad, ⟨_, _, _, rfl⟩, hw.eff⟩)
       refine sqF rfl rfl rfl ?_
       refine sqK [0, 4, 8, 9, 10, 11, 12, 13, 14, 15, 16, 26, 539] rfl ?_
       refine sc_cond_f rfl ?_
       refine scS ?_
       iterate 2 refine scK [0, 4, 8, 9, 10, 11, 12, 13, 14, 15, 16, 26] rfl ?_
       refine sc_mem (fun _ h => h.drop_swap) ?_
       exact hE big _ fp sb _ _ _ _ _ hchk hbig hwd hfp hsb (by omega) (by omega) (by omega) (by omega) (by omega) (.inr ⟨hbad, .inl ⟨by omega, by omega⟩⟩)
      refine sqK [0, 4, 8, 9, 10, 11, 12, 13, 14, 15, 16, 26, 28, 530] rfl ?_
      refine sc_cond_f rfl ?_
      refine scS ?_
      iterate 2 refine scK [0, 4, 8, 9, 10, 11, 12, 13, 14, 15, 16, 26] rfl ?_
      refine sc_mem (fun _ h => h.drop_swap) ?_
      exact hE big _ fp sb _ _ _ _ _ hchk hbig hwd hfp hsb (by omega) (by omega) (by omega) (by omega) (by omega) (.inr ⟨hbad, .inl ⟨by omega, by omega⟩⟩)
     refine sqK [0, 4, 8, 9, 10, 11, 12, 13, 14, 15, 16, 26, 28, 29, 518] rfl ?_
     refine sc_cond_f rfl ?_
     refine scS ?_
     refine scK [0, 4, 8, 9, 10, 11, 12, 13, 14, 15, 16, 26, 28] rfl ?_
     refine scR ?_
     refine sqM rfl rfl ?_
     refine sq_split (q_eql rfl rfl) rfl (fun h120_1 => ?_) (fun h120_1 => ?_)
     ·
      have _tok := trivial
      refine sqK [0, 4, 8, 9, 10, 11, 12, 13, 14, 15, 16, 26, 28, 530] rfl ?_
      refine sc_cond_t rfl ?_
      refine scR ?_
      refine sqM rfl rfl ?_
      refine sq_q (q_conv rfl Tryd.runUnderlying74 Tryd.runUnderlying3 (w_i64 (by omega) (by omega))) rfl ?_
      refine sqA rfl rfl ?_
      refine sqKR [0, 4, 8, 9, 10, 11, 12, 13, 14, 15, 16, 26] rfl ?_
      refine sqM rfl rfl ?_
      refine sq_split (q_lss rfl rfl) rfl (fun h122_1 => ?_) (fun h122_1 => ?_)
      ·
       have _tok := trivial
       refine sqM rfl rfl ?_
       iterate 3 refine sq_gn rfl rfl rfl rfl ?_
       refine sqT rfl rfl rfl ?_
       refine sqK [0, 4, 8, 9, 10, 11, 12, 13, 14, 15, 16, 26, 539] rfl ?_
       refine sc_cond_t rfl ?_
       refine scR ?_
       iterate 2 refine sqM rfl rfl ?_
       refine sq_q (q_iface rfl Tryd.runUnderlying3 rfl) rfl ?_
       refine sq_q (q_build (vs := [(0, _), (1, _), (2, _)]) ⟨rfl, rfl, rfl, rfl, rfl, rfl, trivial⟩ b139) rfl ?_
       refine sq_m (m_box rfl rfl) rfl (fun _ _ => ?_)
       refine sq_q (q_iface rfl Tryd.runUnderlying137 rfl) rfl ?_
       iterate 2 refine sqA rfl rfl ?_
       refine sqK [2, 3] rfl ?_
       refine sc_ret ?_
       refine se_then_ret ?_
       exact se_end (res2 Tryd.results22 rfl rfl) (fun w' hw => .inl ⟨hbad, ⟨_, _, _, rfl⟩, hw.eff⟩)
      refine sqM rfl rfl ?_
      refine sq_gy rfl rfl rfl ?_
      refine sqM rfl rfl ?_
      refine sq_gy rfl rfl rfl ?_
      refine sqM rfl rfl ?_
      refine sq_gy rfl rfl rfl ?_
      refine sq_split (q_geq rfl rfl) rfl (fun h122_5 => ?_) (fun h122_5 => ?_)
      ·
       have _tok := trivial
       refine sqF rfl rfl rfl ?_
       refine sqK [0, 4, 8, 9, 10, 11, 12, 13, 14, 15, 16, 26, 539] rfl ?_
       refine sc_cond_t rfl ?_
       refine scR ?_
       iterate 2 refine sqM rfl rfl ?_
       refine sq_q (q_iface rfl Tryd.runUnderlying3 rfl) rfl ?_
       refine sq_q (q_build (vs := [(0, _), (1, _), (2, _)]) ⟨rfl, rfl, rfl, rfl, rfl, rfl, trivial⟩ b139) rfl ?_
       refine sq_m (m_box rfl rfl) rfl (fun _ _ => ?_)
       refine sq_q (q_iface rfl Tryd.runUnderlying137 rfl) rfl ?_
       iterate 2 refine sqA rfl rfl ?_
       refine sqK [2, 3] rfl ?_
       refine sc_ret ?_
       refine se_then_ret ?_
       exact se_end (res2 Tryd.results22 rfl rfl) (fun w' hw => .inl ⟨hbad, ⟨_, _, _, rfl⟩, hw.eff⟩)
      refine sqF rfl rfl rfl ?_
      refine sqK [0, 4, 8, 9, 10, 11, 12, 13, 14, 15, 16, 26, 539] rfl ?_
      refine sc_cond_f rfl ?_
      refine scS ?_
      iterate 2 refine scK [0, 4, 8, 9, 10, 11, 12, 13, 14, 15, 16, 26] rfl ?_
      refine sc_mem (fun _ h => h.drop_swap) ?_
      exact hE big _ fp sb _ _ _ _ _ hchk hbig hwd hfp hsb (by omega) (by omega) (by omega) (by omega) (by omega) (.inr ⟨hbad, .inr ⟨rfl, by omega⟩⟩)
     refine sqK [0, 4, 8, 9, 10, 11, 12, 13, 14, 15, 16, 26, 28, 530] rfl ?_
     refine sc_cond_f rfl ?_
     refine scS ?_
     iterate 2 refine scK [0, 4, 8, 9, 10, 11, 12, 13, 14, 15, 16, 26] rfl ?_
     refine sc_mem (fun _ h => h.drop_swap) ?_
     exact hE big _ fp sb _ _ _ _ _ hchk hbig hwd hfp hsb (by omega) (by omega) (by omega) (by omega) (by omega) (.inr ⟨hbad, .inr ⟨rfl, by omega⟩⟩)
    refine sqK [0, 4, 8, 9, 10, 11, 12, 13, 14, 15, 16, 26, 28, 29, 30, 506] rfl ?_
    refine sc_cond_f rfl ?_
    refine scS ?_
    refine scK [0, 4, 8, 9, 10, 11, 12, 13, 14, 15, 16, 26, 28, 29] rfl ?_
    refine sc_seq ?_
    refine scR ?_
    refine sqM rfl rfl ?_
    refine sq_split (q_eql rfl rfl) rfl (fun h116_1 => ?_) (fun h116_1 => ?_)
    ·
     have hpn2 : (hd bs).phnum = 65535 := by omega
     have hes2 : 56 ≤ (hd bs).phes := by have := hchk.phe; rw [hwd] at this; exact this (by omega)
     refine sqK [0, 4, 8, 9, 10, 11, 12, 13, 14, 15, 16, 26, 28, 29, 518] rfl ?_
     refine sc_cond_t rfl ?_
     refine sc_seq ?_
     refine scR ?_
     refine sqM rfl rfl ?_
     refine sq_split (q_lss rfl rfl) rfl (fun h117_1 => ?_) (fun h117_1 => ?_)
     ·
      have _tok := trivial
      refine sqK [0, 4, 8, 9, 10, 11, 13, 14, 15, 16, 26, 28, 29, 520] rfl ?_
      refine sc_cond_t rfl ?_
      refine scR ?_
      iterate 2 refine sqM rfl rfl ?_
      refine sq_q (q_iface rfl Tryd.runUnderlying74 rfl) rfl ?_
      refine sq_q (q_build (vs := [(0, _), (1, _), (2, _)]) ⟨rfl, rfl, rfl, rfl, rfl, rfl, trivial⟩ b139) rfl ?_
      refine sq_m (m_box rfl rfl) rfl (fun _ _ => ?_)
      refine sq_q (q_iface rfl Tryd.runUnderlying137 rfl) rfl ?_
      iterate 2 refine sqA rfl rfl ?_
      refine sqK [2, 3] rfl ?_
      refine sc_ret ?_
      iterate 3 refine se_then_ret ?_
      exact se_end (res2 Tryd.results22 rfl rfl) (fun w' hw => .inl ⟨hbad, ⟨_, _, _, rfl⟩, hw.eff⟩)
     refine sqK [0, 4, 8, 9, 10, 11, 13, 14, 15, 16, 26, 28, 29, 520] rfl ?_
     refine sc_cond_f rfl ?_
     refine scS ?_
     refine scK [0, 4, 8, 9, 10, 11, 13, 14, 15, 16, 26, 28, 29] rfl ?_
     refine sc_region ?_
     refine sqM rfl rfl ?_
     refine sq_q (q_conv rfl Tryd.runUnderlying74 Tryd.runUnderlying3 (w_i64 (by omega) (by omega))) rfl ?_
     refine sqA rfl rfl ?_
     refine sqKR [0, 4, 8, 9, 10, 11, 12, 13, 14, 15, 16, 26, 28] rfl ?_
     refine sqM rfl rfl ?_
     refine sq_split (q_eql rfl rfl) rfl (fun h120_1 => ?_) (fun h120_1 => ?_)
     ·
      have _tok := trivial
      refine sqK [0, 4, 8, 9, 10, 11, 12, 13, 14, 15, 16, 26, 28, 530] rfl ?_
      refine sc_cond_t rfl ?_
      refine scR ?_
      refine sqM rfl rfl ?_
      refine sq_q (q_conv rfl Tryd.runUnderlying74 Tryd.runUnderlying3 (w_i64 (by omega) (by omega))) rfl ?_
      refine sqA rfl rfl ?_
      refine sqKR [0, 4, 8, 9, 10, 11, 12, 13, 14, 15, 16, 26] rfl ?_
      refine sqM rfl rfl ?_
      refine sq_split (q_lss rfl rfl) rfl (fun h122_1 => ?_) (fun h122_1 => ?_)
      ·
       have _tok := trivial
       refine sqM rfl rfl ?_
       iterate 3 refine sq_gn rfl rfl rfl rfl ?_
       refine sqT rfl rfl rfl ?_
       refine sqK [0, 4, 8, 9, 10, 11, 12, 13, 14, 15, 16, 26, 539] rfl ?_
       refine sc_cond_t rfl ?_
       refine scR ?_
       iterate 2 refine sqM rfl rfl ?_
       refine sq_q (q_iface rfl Tryd.runUnderlying3 rfl) rfl ?_
       refine sq_q (q_build (vs := [(0, _), (1, _), (2, _)]) ⟨rfl, rfl, rfl, rfl, rfl, rfl, trivial⟩ b139) rfl ?_
       refine sq_m (m_box rfl rfl) rfl (fun _ _ => ?_)
       refine sq_q (q_iface rfl Tryd.runUnderlying137 rfl) rfl ?_
       iterate 2 refine sqA rfl rfl ?_
       refine sqK [2, 3] rfl ?_
       refine sc_ret ?_
       refine se_then_ret ?_
       exact se_end (res2 Tryd.results22 rfl rfl) (fun w' hw => .inl ⟨hbad, ⟨_, _, _, rfl⟩, hw.eff⟩)
      refine sqM rfl rfl ?_
      refine sq_gy rfl rfl rfl ?_
      refine sqM rfl rfl ?_
      refine sq_gy rfl rfl rfl ?_
      refine sqM rfl rfl ?_
      refine sq_gy rfl rfl rfl ?_
      refine sq_split (q_geq rfl rfl) rfl (fun h122_5 => ?_) (fun h122_5 => ?_)
      ·
       have _tok := trivial
       refine sqF rfl rfl rfl ?_
       refine sqK [0, 4, 8, 9, 10, 11, 12, 13, 14, 15, 16, 26, 539] rfl ?_
       refine sc_cond_t rfl ?_
       refine scR ?_
       iterate 2 refine sqM rfl rfl ?_
       refine sq_q (q_iface rfl Tryd.runUnderlying3 rfl) rfl ?_
       refine sq_q (q_build (vs := [(0, _), (1, _), (2, _)]) ⟨rfl, rfl, rfl, rfl, rfl, rfl, trivial⟩ b139) rfl ?_
       refine sq_m (m_box rfl rfl) rfl (fun _ _ => ?_)
       refine sq_q (q_iface rfl Tryd.runUnderlying137 rfl) rfl ?_
       iterate 2 refine sqA rfl rfl ?_
       refine sqK [2, 3] rfl ?_
       refine sc_ret ?_
       refine se_then_ret ?_
       exact se_end (res2 Tryd.results22 rfl rfl) (fun w' hw => .inl ⟨hbad, ⟨_, _, _, rfl⟩, hw.eff⟩)
      refine sqF rfl rfl rfl ?_
      refine sqK [0, 4, 8, 9, 10, 11, 12, 13, 14, 15, 16, 26, 539] rfl ?_
      refine sc_cond_f rfl ?_
      refine scS ?_
      iterate 2 refine scK [0, 4, 8, 9, 10, 11, 12, 13, 14, 15, 16, 26] rfl ?_
      refine sc_mem (fun _ h => h.drop_swap) ?_
      exact hE big _ fp sb _ _ _ _ _ hchk hbig hwd hfp hsb (by omega) (by omega) (by omega) (by omega) (by omega) (.inr ⟨hbad, .inl ⟨by omega, by omega⟩⟩)
     refine sqK [0, 4, 8, 9, 10, 11, 12, 13, 14, 15, 16, 26, 28, 530] rfl ?_
     refine sc_cond_f rfl ?_
     refine scS ?_
     iterate 2 refine scK [0, 4, 8, 9, 10, 11, 12, 13, 14, 15, 16, 26] rfl ?_
     refine sc_mem (fun _ h => h.drop_swap) ?_
     exact hE big _ fp sb _ _ _ _ _ hchk hbig hwd hfp hsb (by omega) (by omega) (by omega) (by omega) (by omega) (.inr ⟨hbad, .inl ⟨by omega, by omega⟩⟩)
    refine sqK [0, 4, 8, 9, 10, 11, 12, 13, 14, 15, 16, 26, 28, 29, 518] rfl ?_
    refine sc_cond_f rfl ?_
    refine scS ?_
    refine scK [0, 4, 8, 9, 10, 11, 12, 13, 14, 15, 16, 26, 28] rfl ?_
    refine scR ?_
    refine sqM rfl rfl ?_
    refine sq_split (q_eql rfl rfl) rfl (fun h120_1 => ?_) (fun h120_1 => ?_)
    ·
     have _tok := trivial
     refine sqK [0, 4, 8, 9, 10, 11, 12, 13, 14, 15, 16, 26, 28, 530] rfl ?_
     refine sc_cond_t rfl ?_
     refine scR ?_
     refine sqM rfl rfl ?_
     refine sq_q (q_conv rfl Tryd.runUnderlying74 Tryd.runUnderlying3 (w_i64 (by omega) (by omega))) rfl ?_
     refine sqA rfl rfl ?_
     refine sqKR [0, 4, 8, 9, 10, 11, 12, 13, 14, 15, 16, 26] rfl ?_
     refine sqM rfl rfl ?_
     refine sq_split (q_lss rfl rfl) rfl (fun h122_1 => ?_) (fun h122_1 => ?_)
     ·
      have _tok := trivial
      refine sqM rfl rfl ?_
      iterate 3 refine sq_gn rfl rfl rfl rfl ?_
      refine sqT rfl rfl rfl ?_
      refine sqK [0, 4, 8, 9, 10, 11, 12, 13, 14, 15, 16, 26, 539] rfl ?_
      refine sc_cond_t rfl ?_
      refine scR ?_
      iterate 2 refine sqM rfl rfl ?_
      refine sq_q (q_iface rfl Tryd.runUnderlying3 rfl) rfl ?_
      refine sq_q (q_build (vs := [(0, _), (1, _), (2, _)]) ⟨rfl, rfl, rfl, rfl, rfl, rfl, trivial⟩ b139) rfl ?_
      refine sq_m (m_box rfl rfl) rfl (fun _ _ => ?_)
      refine sq_q (q_iface rfl Tryd.runUnderlying137 rfl) rfl ?_
      iterate 2 refine sqA rfl rfl ?_
      refine sqK [2, 3] rfl ?_
      refine sc_ret ?_
      refine se_then_ret ?_
      exact se_end (res2 Tryd.results22 rfl rfl) (fun w' hw => .inl ⟨hbad, ⟨_, _, _, rfl⟩, hw.eff⟩)
     refine sqM rfl rfl ?_
     refine sq_gy rfl rfl rfl ?_
     refine sqM rfl rfl ?_
     refine sq_gy rfl rfl rfl ?_
     refine sqM rfl rfl ?_
     refine sq_gy rfl rfl rfl ?_
     refine sq_split (q_geq rfl rfl) rfl (fun h122_5 => ?_) (fun h122_5 => ?_)
     ·
      have _tok := trivial
      refine sqF rfl rfl rfl ?_
      refine sqK [0, 4, 8, 9, 10, 11, 12, 13, 14, 15, 16, 26, 539] rfl ?_
      refine sc_cond_t rfl ?_
      refine scR ?_
      iterate 2 refine sqM rfl rfl ?_
      refine sq_q (q_iface rfl Tryd.runUnderlying3 rfl) rfl ?_
      refine sq_q (q_build (vs := [(0, _), (1, _), (2, _)]) ⟨rfl, rfl, rfl, rfl, rfl, rfl, trivial⟩ b139) rfl ?_
      refine sq_m (m_box rfl rfl) rfl (fun _ _ => ?_)
      refine sq_q (q_iface rfl Tryd.runUnderlying137 rfl) rfl ?_
      iterate 2 refine sqA rfl rfl ?_
      refine sqK [2, 3] rfl ?_
      refine sc_ret ?_
      refine se_then_ret ?_
      exact se_end (res2 Tryd.results22 rfl rfl) (fun w' hw => .inl ⟨hbad, ⟨_, _, _, rfl⟩, hw.eff⟩)
     refine sqF rfl rfl rfl ?_
     refine sqK [0, 4, 8, 9, 10, 11, 12, 13, 14, 15, 16, 26, 539] rfl ?_
     refine sc_cond_f rfl ?_
     refine scS ?_
     iterate 2 refine scK [0, 4, 8, 9, 10, 11, 12, 13, 14, 15, 16, 26] rfl ?_
     refine sc_mem (fun _ h => h.drop_swap) ?_
     exact hE big _ fp sb _ _ _ _ _ hchk hbig hwd hfp hsb (by omega) (by omega) (by omega) (by omega) (by omega) (.inr ⟨hbad, .inl ⟨by omega, by omega⟩⟩)
    refine sqK [0, 4, 8, 9, 10, 11, 12, 13, 14, 15, 16, 26, 28, 530] rfl ?_
    refine sc_cond_f rfl ?_
    refine scS ?_
    iterate 2 refine scK [0, 4, 8, 9, 10, 11, 12, 13, 14, 15, 16, 26] rfl ?_
    refine sc_mem (fun _ h => h.drop_swap) ?_
    exact hE big _ fp sb _ _ _ _ _ hchk hbig hwd hfp hsb (by omega) (by omega) (by omega) (by omega) (by omega) (.inl ⟨rfl, rfl, rfl, by omega⟩)
   dsimp only at hv hmm
   subst hv hmm
   refine sqKR [0, 4, 8, 9, 10, 11, 12, 13, 14, 15, 16, 26, 33, 34] rfl ?_
   refine sqM rfl rfl ?_
   refine sq_q (q_iface_neq_nil rfl rfl Tryd.runUnderlying86) rfl ?_
   refine sqK [0, 4, 8, 9, 10, 11, 12, 13, 14, 15, 16, 26, 33, 34, 479] rfl ?_
   refine sc_cond_t rfl ?_
   refine scR ?_
   refine sqM rfl rfl ?_
   iterate 2 refine sqA rfl rfl ?_
   refine sqK [2, 3] rfl ?_
   refine sc_ret ?_
   refine se_then_ret ?_
   refine se_block_ret ?_
   iterate 2 refine se_then_ret ?_
   exact se_end (res2 Tryd.results22 rfl rfl) (fun w' hw => .inl ⟨hbad, ⟨_, _, _, rfl⟩, hw.eff⟩)
  refine sq_gy rfl rfl rfl ?_
  refine sqM rfl rfl ?_
  refine sq_gy rfl rfl rfl ?_
  refine sqM rfl rfl ?_
  refine sq_gy rfl rfl rfl ?_
  refine sq_split (q_eql rfl rfl) rfl (fun h87_7 => ?_) (fun h87_7 => ?_)
  ·
   have hpn : (hd bs).phnum = 65535 := by omega
   have hes : 56 ≤ (hd bs).phes := by have := hchk.phe; rw [hwd] at this; exact this (by omega)
   have hbad : ¬ Good bs := fun hg => by have h9 := hg.pcut; rw [hpn] at h9; unfold CutOk at h9; omega
   refine sq_gy rfl rfl rfl ?_
   refine sqF rfl rfl rfl ?_
   refine sqT rfl rfl rfl ?_
   refine sqK [0, 4, 8, 9, 10, 11, 12, 13, 14, 15, 16, 26, 433] rfl ?_
   refine sc_cond_t rfl ?_
   refine scR ?_
   iterate 3 refine sqA rfl rfl ?_
   refine sqKR [0, 4, 8, 9, 10, 11, 12, 13, 14, 15, 16, 26, 27, 28, 29] rfl ?_
   refine sqA rfl rfl ?_
   refine sqZ ?_
   refine scR ?_
   iterate 2 refine sqM rfl rfl ?_
   refine sq_m (seek_inv (i := 1) (off := (hd bs).shoff) (v := .iface 117 u) (by omega) rfl rfl rfl rfl rfl (fun h => absurd h (by omega))) rfl (fun _ _ => ?_)
   refine sqK [0, 4, 8, 9, 10, 11, 12, 13, 14, 15, 16, 26, 27, 28, 29, 30] rfl ?_
   refine sc_seq ?_
   refine scR ?_
   refine sqM rfl rfl ?_
   refine sq_q (q_nil rfl) rfl ?_
   refine sq_q (q_fieldj (j := 0) rfl Tryd.runUnderlying72 rfl Tryd.sizeOf66 rfl) rfl ?_
   refine sq_q (q_fieldj (j := 0) rfl Tryd.runUnderlying66 rfl Tryd.sizeOf57 rfl) rfl ?_
   refine sq_q (q_load1 rfl Tryd.isAgg57 (i := 0) rfl rfl) rfl ?_
   refine sqK [0, 4, 8, 9, 10, 11, 12, 13, 14, 15, 16, 26, 27, 28, 29, 30, 441] rfl ?_
   refine sc_block ?_
   refine scR ?_
   refine sq_q (q_decF (q_eql rfl rfl) (by omega)) rfl ?_
   refine sqA rfl rfl ?_
   refine sqK [0, 4, 8, 9, 10, 11, 12, 13, 14, 15, 16, 26, 27, 28, 29, 30, 441, 442] rfl ?_
   refine sc_cond_f rfl ?_
   refine scR ?_
   refine sq_q (q_decT (q_eql rfl rfl) (by omega)) rfl ?_
   refine sqA rfl rfl ?_
   refine sqK [0, 4, 8, 9, 10, 11, 12, 13, 14, 15, 16, 26, 27, 28, 29, 30, 470] rfl ?_
   refine sc_cond_t rfl ?_
   refine scR ?_
   refine sq_m (m_alloc (l := [.int .u32 0, .int .u32 0, .int .u64 0, .int .u64 0, .int .u64 0, .int .u64 0, .int .u32 0, .int .u32 0, .int .u64 0, .int .u64 0]) Tryd.zeroValue151 rfl) rfl (fun _ _ => ?_)
   refine sq_known fun hnd hge hlt => ?_
   refine sqA rfl rfl ?_
   refine sqK [0, 4, 8, 9, 10, 11, 12, 13, 14, 15, 16, 26, 33] rfl ?_
   refine sc_seq ?_
   refine scR ?_
   refine sqM rfl rfl ?_
   refine sq_q (q_iface rfl Tryd.runUnderlying81 rfl) rfl ?_
   iterate 2 refine sqM rfl rfl ?_
   refine sq_m (sec64_inv cx.rc big (limOf_le _ _) (by omega) (fun xs e ht he => tr_full cx.len (by omega) ht he) hnd rfl (fun k hk hl => absurd hl (by rcases hk with hk | hk <;> omega)) rfl rfl rfl) rfl (fun q hq => ?_)
   refine sqA rfl rfl ?_
   obtain ⟨v, xs, cur, N2, mm⟩ := q
   rcases hq with ⟨hxs, hv, hmm⟩ | ⟨⟨t2, u2, hv⟩, hmm⟩
   ·
    dsimp only at hv hmm
    subst hv hmm
    have f5 := fld8 big xs 32
    have f6 := fld4 big xs 40
    have f7 := fld4 big xs 44
    refine sqKR [0, 4, 8, 9, 10, 11, 12, 13, 14, 15, 16, 26, 33, 34] rfl ?_
    refine sqM rfl rfl ?_
    refine sq_q (q_nil_neq_nil rfl Tryd.runUnderlying86) rfl ?_
    refine sqK [0, 4, 8, 9, 10, 11, 12, 13, 14, 15, 16, 26, 33, 34, 479] rfl ?_
    refine sc_cond_f rfl ?_
    refine scS ?_
    refine scK [0, 4, 8, 9, 10, 11, 12, 13, 14, 15, 16, 26, 33] rfl ?_
    refine scR ?_
    refine sqM rfl rfl ?_
    refine sq_q (q_nil rfl) rfl ?_
    refine sq_q (q_fieldj (j := 5) rfl Tryd.runUnderlying151 rfl Tryd.sizeOf23 rfl) rfl ?_
    refine sq_q (q_load1 rfl Tryd.isAgg23 (i := 0) rfl rfl) rfl ?_
    refine sqA rfl rfl ?_
    refine sqKR [0, 4, 8, 9, 10, 11, 12, 13, 14, 15, 16, 26, 30, 33] rfl ?_
    refine sqM rfl rfl ?_
    refine sq_q (q_nil rfl) rfl ?_
    refine sq_q (q_fieldj (j := 1) rfl Tryd.runUnderlying151 rfl Tryd.sizeOf74 rfl) rfl ?_
    refine sq_q (q_load1 rfl Tryd.isAgg74 (i := 0) rfl rfl) rfl ?_
    refine sqA rfl rfl ?_
    refine sqKR [0, 4, 8, 9, 10, 11, 12, 13, 14, 15, 16, 26, 27, 30, 33] rfl ?_
    refine sqM rfl rfl ?_
    refine sq_q (q_nil rfl) rfl ?_
    refine sq_q (q_fieldj (j := 6) rfl Tryd.runUnderlying151 rfl Tryd.sizeOf74 rfl) rfl ?_
    refine sq_q (q_load1 rfl Tryd.isAgg74 (i := 0) rfl rfl) rfl ?_
    refine sqA rfl rfl ?_
    refine sqK [0, 4, 8, 9, 10, 11, 12, 13, 14, 15, 16, 26, 27, 28, 30, 33] rfl ?_
    refine sc_region ?_
    refine sqM rfl rfl ?_
    refine sq_q (q_nil rfl) rfl ?_
    refine sq_q (q_fieldj (j := 7) rfl Tryd.runUnderlying151 rfl Tryd.sizeOf74 rfl) rfl ?_
    refine sq_q (q_load1 rfl Tryd.isAgg74 (i := 0) rfl rfl) rfl ?_
    refine sqA rfl rfl ?_
    refine sq_nil ?_
    refine se_block ?_
    refine se_seq ?_
    refine scK [0, 4, 8, 9, 10, 11, 12, 13, 14, 15, 16, 26, 27, 28, 29, 30] rfl ?_
    refine sc_seq ?_
    refine scR ?_
    refine sqM rfl rfl ?_
    refine sq_split (q_neq rfl rfl) rfl (fun h110_1 => ?_) (fun h110_1 => ?_)
    ·
     have _tok := trivial
     refine sqK [0, 4, 8, 9, 10, 11, 12, 13, 14, 15, 16, 26, 27, 28, 29, 30, 498] rfl ?_
     refine sc_cond_t rfl ?_
     refine scR ?_
     iterate 2 refine sqM rfl rfl ?_
     refine sq_q (q_iface rfl Tryd.runUnderlying75 rfl) rfl ?_
     refine sq_q (q_build (vs := [(0, _), (1, _), (2, _)]) ⟨rfl, rfl, rfl, rfl, rfl, rfl, trivial⟩ b139) rfl ?_
     refine sq_m (m_box rfl rfl) rfl (fun _ _ => ?_)
     refine sq_q (q_iface rfl Tryd.runUnderlying137 rfl) rfl ?_
     iterate 2 refine sqA rfl rfl ?_
     refine sqK [2, 3] rfl ?_
     refine sc_ret ?_
     iterate 2 refine se_then_ret ?_
     exact se_end (res2 Tryd.results22 rfl rfl) (fun w' hw => .inl ⟨hbad, ⟨_, _, _, rfl⟩, hw.eff⟩)
    refine sqK [0, 4, 8, 9, 10, 11, 12, 13, 14, 15, 16, 26, 27, 28, 29, 30, 498] rfl ?_
    refine sc_cond_f rfl ?_
    refine scS ?_
    refine scK [0, 4, 8, 9, 10, 11, 12, 13, 14, 15, 16, 26, 28, 29, 30] rfl ?_
    refine sc_seq ?_
    refine scR ?_
    refine sqM rfl rfl ?_
    refine sq_split (q_eql rfl rfl) rfl (fun h112_1 => ?_) (fun h112_1 => ?_)
    ·
     have _tok := trivial
     refine sqK [0, 4, 8, 9, 10, 11, 12, 13, 14, 15, 16, 26, 28, 29, 30, 506] rfl ?_
     refine sc_cond_t rfl ?_
     refine sc_seq ?_
     refine scR ?_
     refine sqM rfl rfl ?_
     refine sq_split (q_lss rfl rfl) rfl (fun h113_1 => ?_) (fun h113_1 => ?_)
     ·
      have _tok := trivial
      refine sqK [0, 4, 8, 9, 10, 11, 12, 13, 14, 15, 16, 26, 28, 29, 30, 508] rfl ?_
      refine sc_cond_t rfl ?_
      refine scR ?_
      iterate 2 refine sqM rfl rfl ?_
      refine sq_q (q_iface rfl Tryd.runUnderlying3 rfl) rfl ?_
      refine sq_q (q_build (vs := [(0, _), (1, _), (2, _)]) ⟨rfl, rfl, rfl, rfl, rfl, rfl, trivial⟩ b139) rfl ?_
      refine sq_m (m_box rfl rfl) rfl (fun _ _ => ?_)
      refine sq_q (q_iface rfl Tryd.runUnderlying137 rfl) rfl ?_
      iterate 2 refine sqA rfl rfl ?_
      refine sqK [2, 3] rfl ?_
      refine sc_ret ?_
      iterate 3 refine se_then_ret ?_
      exact se_end (res2 Tryd.results22 rfl rfl) (fun w' hw => .inl ⟨hbad, ⟨_, _, _, rfl⟩, hw.eff⟩)
     refine sqK [0, 4, 8, 9, 10, 11, 12, 13, 14, 15, 16, 26, 28, 29, 30, 508] rfl ?_
     refine sc_cond_f rfl ?_
     refine scS ?_
     refine scK [0, 4, 8, 9, 10, 11, 12, 13, 14, 16, 26, 28, 29, 30] rfl ?_
     refine sc_region ?_
     refine sqM rfl rfl ?_
     refine sq_q (q_conv rfl Tryd.runUnderlying23 Tryd.runUnderlying3 rfl) rfl ?_
     have hsz : 65280 ≤ IntKind.i64.wrap ((fld big xs 32 8 : Nat) : Int) ∨ IntKind.i64.wrap ((fld big xs 32 8 : Nat) : Int) < 0 := by rw [IntKind.wrap_i64]; omega
     have hsz2 : IntKind.i64.wrap ((fld big xs 32 8 : Nat) : Int) ≤ 9223372036854775807 ∧ -9223372036854775808 ≤ IntKind.i64.wrap ((fld big xs 32 8 : Nat) : Int) := by rw [IntKind.wrap_i64]; omega
     refine sqA rfl rfl ?_
     refine sqK [0, 4, 8, 9, 10, 11, 12, 13, 14, 15, 16, 26, 28, 29] rfl ?_
     refine sc_seq ?_
     refine scR ?_
     refine sqM rfl rfl ?_
     refine sq_split (q_eql rfl rfl) rfl (fun h116_1 => ?_) (fun h116_1 => ?_)
     ·
      have hpn2 : (hd bs).phnum = 65535 := by omega
      have hes2 : 56 ≤ (hd bs).phes := by have := hchk.phe; rw [hwd] at this; exact this (by omega)
      refine sqK [0, 4, 8, 9, 10, 11, 12, 13, 14, 15, 16, 26, 28, 29, 518] rfl ?_
      refine sc_cond_t rfl ?_
      refine sc_seq ?_
      refine scR ?_
      refine sqM rfl rfl ?_
      refine sq_split (q_lss rfl rfl) rfl (fun h117_1 => ?_) (fun h117_1 => ?_)
      ·
       have _tok := trivial
       refine sqK [0, 4, 8, 9, 10, 11, 13, 14, 15, 16, 26, 28, 29, 520] rfl ?_
       refine sc_cond_t rfl ?_
       refine scR ?_
       iterate 2 refine sqM rfl rfl ?_
       refine sq_q (q_iface rfl Tryd.runUnderlying74 rfl) rfl ?_
       refine sq_q (q_build (vs := [(0, _), (1, _), (2, _)]) ⟨rfl, rfl, rfl, rfl, rfl, rfl, trivial⟩ b139) rfl ?_
       refine sq_m (m_box rfl rfl) rfl (fun _ _ => ?_)
       refine sq_q (q_iface rfl Tryd.runUnderlying137 rfl) rfl ?_
       iterate 2 refine sqA rfl rfl ?_
       refine sqK [2, 3] rfl ?_
       refine sc_ret ?_
       iterate 3 refine se_then_ret ?_
       exact se_end (res2 Tryd.results22 rfl rfl) (fun w' hw => .inl ⟨hbad, ⟨_, _, _, rfl⟩, hw.eff⟩)
      refine sqK [0, 4, 8, 9, 10, 11, 13, 14, 15, 16, 26, 28, 29, 520] rfl ?_
      refine sc_cond_f rfl ?_
      refine scS ?_
      refine scK [0, 4, 8, 9, 10, 11, 13, 14, 15, 16, 26, 28, 29] rfl ?_
      refine sc_region ?_
      refine sqM rfl rfl ?_
      refine sq_q (q_conv rfl Tryd.runUnderlying74 Tryd.runUnderlying3 (w_i64 (by omega) (by omega))) rfl ?_
      refine sqA rfl rfl ?_
      refine sqKR [0, 4, 8, 9, 10, 11, 12, 13, 14, 15, 16, 26, 28] rfl ?_
      refine sqM rfl rfl ?_
      refine sq_split (q_eql rfl rfl) rfl (fun h120_1 => ?_) (fun h120_1 => ?_)
      ·
       have _tok := trivial
       refine sqK [0, 4, 8, 9, 10, 11, 12, 13, 14, 15, 16, 26, 28, 530] rfl ?_
       refine sc_cond_t rfl ?_
       refine scR ?_
       refine sqM rfl rfl ?_
       refine sq_q (q_conv rfl Tryd.runUnderlying74 Tryd.runUnderlying3 (w_i64 (by omega) (by omega))) rfl ?_
       refine sqA rfl rfl ?_
       refine sqKR [0, 4, 8, 9, 10, 11, 12, 13, 14, 15, 16, 26] rfl ?_
       refine sqM rfl rfl ?_
       refine sq_split (q_lss rfl rfl) rfl (fun h122_1 => ?_) (fun h122_1 => ?_)
       ·
        have _tok := trivial
        refine sqM rfl rfl ?_
        iterate 3 refine sq_gn rfl rfl rfl rfl ?_
        refine sqT rfl rfl rfl ?_
        refine sqK [0, 4, 8, 9, 10, 11, 12, 13, 14, 15, 16, 26, 539] rfl ?_
        refine sc_cond_t rfl ?_
        refine scR ?_
        iterate 2 refine sqM rfl rfl ?_
        refine sq_q (q_iface rfl Tryd.runUnderlying3 rfl) rfl ?_
        refine sq_q (q_build (vs := [(0, _), (1, _), (2, _)]) ⟨rfl, rfl, rfl, rfl, rfl, rfl, trivial⟩ b139) rfl ?_
        refine sq_m (m_box rfl rfl) rfl (fun _ _ => ?_)
        refine sq_q (q_iface rfl Tryd.runUnderlying137 rfl) rfl ?_
        iterate 2 refine sqA rfl rfl ?_
        refine sqK [2, 3] rfl ?_
        refine sc_ret ?_
        refine se_then_ret ?_
        exact se_end (res2 Tryd.results22 rfl rfl) (fun w' hw => .inl ⟨hbad, ⟨_, _, _, rfl⟩, hw.eff⟩)
       refine sqM rfl rfl ?_
       refine sq_gy rfl rfl rfl ?_
       refine sqM rfl rfl ?_
       refine sq_gy rfl rfl rfl ?_
       refine sqM rfl rfl ?_
       refine sq_gy rfl rfl rfl ?_
       refine sq_split (q_geq rfl rfl) rfl (fun h122_5 => ?_) (fun h122_5 => ?_)
       ·
        have _tok := trivial
        refine sqF rfl rfl rfl ?_
        refine sqK [0, 4, 8, 9, 10, 11, 12, 13, 14, 15, 16, 26, 539] rfl ?_
        refine sc_cond_t rfl ?_
        refine scR ?_
        iterate 2 refine sqM rfl rfl ?_
        refine sq_q (q_iface rfl Tryd.runUnderlying3 rfl) rfl ?_
        refine sq_q (q_build (vs := [(0, _), (1, _), (2, _)]) ⟨rfl, rfl, rfl, rfl, rfl, rfl, trivial⟩ b139) rfl ?_
        refine sq_m (m_box rfl rfl) rfl (fun _ _ => ?_)
        refine sq_q (q_iface rfl Tryd.runUnderlying137 rfl) rfl ?_
        iterate 2 refine sqA rfl rfl ?_
        refine sqK [2, 3] rfl ?_
        refine sc_ret ?_
        refine se_then_ret ?_
        exact se_end (res2 Tryd.results22 rfl rfl) (fun w' hw => .inl ⟨hbad, ⟨_, _, _, rfl⟩, hw.eff⟩)
       refine sqF rfl rfl rfl ?_
       refine sqK [0, 4, 8, 9, 10, 11, 12, 13, 14, 15, 16, 26, 539] rfl ?_
       refine sc_cond_f rfl ?_
       refine scS ?_
       iterate 2 refine scK [0, 4, 8, 9, 10, 11, 12, 13, 14, 15, 16, 26] rfl ?_
       refine sc_mem (fun _ h => h.drop_swap) ?_
       exact hE big _ fp sb _ _ _ _ _ hchk hbig hwd hfp hsb (by omega) (by omega) (by omega) (by omega) (by omega) (.inr ⟨hbad, .inl ⟨by omega, by omega⟩⟩)
      refine sqK [0, 4, 8, 9, 10, 11, 12, 13, 14, 15, 16, 26, 28, 530] rfl ?_
      refine sc_cond_f rfl ?_
      refine scS ?_
      iterate 2 refine scK [0, 4, 8, 9, 10, 11, 12, 13, 14, 15, 16, 26] rfl ?_
      refine sc_mem (fun _ h => h.drop_swap) ?_
      exact hE big _ fp sb _ _ _ _ _ hchk hbig hwd hfp hsb (by omega) (by omega) (by omega) (by omega) (by omega) (.inr ⟨hbad, .inl ⟨by omega, by omega⟩⟩)
     refine sqK [0, 4, 8, 9, 10, 11, 12, 13, 14, 15, 16, 26, 28, 29, 518] rfl ?_
     refine sc_cond_f rfl ?_
     refine scS ?_
     refine scK [0, 4, 8, 9, 10, 11, 12, 13, 14, 15, 16, 26, 28] rfl ?_
     refine scR ?_
     refine sqM rfl rfl ?_
     refine sq_split (q_eql rfl rfl) rfl (fun h120_1 => ?_) (fun h120_1 => ?_)
     ·
      have _tok := trivial
      refine sqK [0, 4, 8, 9, 10, 11, 12, 13, 14, 15, 16, 26, 28, 530] rfl ?_
      refine sc_cond_t rfl ?_
      refine scR ?_
      refine sqM rfl rfl ?_
      refine sq_q (q_conv rfl Tryd.runUnderlying74 Tryd.runUnderlying3 (w_i64 (by omega) (by omega))) rfl ?_
      refine sqA rfl rfl ?_
      refine sqKR [0, 4, 8, 9, 10, 11, 12, 13, 14, 15, 16, 26] rfl ?_
      refine sqM rfl rfl ?_
      refine sq_split (q_lss rfl rfl) rfl (fun h122_1 => ?_) (fun h122_1 => ?_)
      ·
       have _tok := trivial
       refine sqM rfl rfl ?_
       iterate 3 refine sq_gn rfl rfl rfl rfl ?_
       refine sqT rfl rfl rfl ?_
       refine sqK [0, 4, 8, 9, 10, 11, 12, 13, 14, 15, 16, 26, 539] rfl ?_
       refine sc_cond_t rfl ?_
       refine scR ?_
       iterate 2 refine sqM rfl rfl ?_
       refine sq_q (q_iface rfl Tryd.runUnderlying3 rfl) rfl ?_
       refine sq_q (q_build (vs := [(0, _), (1, _), (2, _)]) ⟨rfl, rfl, rfl, rfl, rfl, rfl, trivial⟩ b139) rfl ?_
       refine sq_m (m_box rfl rfl) rfl (fun _ _ => ?_)
       refine sq_q (q_iface rfl Tryd.runUnderlying137 rfl) rfl ?_
       iterate 2 refine sqA rfl rfl ?_
       refine sqK [2, 3] rfl ?_
       refine sc_ret ?_
       refine se_then_ret ?_
       exact se_end (res2 Tryd.results22 rfl rfl) (fun w' hw => .inl ⟨hbad, ⟨_, _, _, rfl⟩, hw.eff⟩)
      refine sqM rfl rfl ?_
      refine sq_gy rfl rfl rfl ?_
      refine sqM rfl rfl ?_
      refine sq_gy rfl rfl rfl ?_
      refine sqM rfl rfl ?_
      refine sq_gy rfl rfl rfl ?_
      refine sq_split (q_geq rfl rfl) rfl (fun h122_5 => ?_) (fun h122_5 => ?_)
      ·
       have _tok := trivial
       refine sqF rfl rfl rfl ?_
       refine sqK [0, 4, 8, 9, 10, 11, 12, 13, 14, 15, 16, 26, 539] rfl ?_
       refine sc_cond_t rfl ?_
       refine scR ?_
       iterate 2 refine sqM rfl rfl ?_
       refine sq_q (q_iface rfl Tryd.runUnderlying3 rfl) rfl ?_
       refine sq_q (q_build (vs := [(0, _), (1, _), (2, _)]) ⟨rfl, rfl, rfl, rfl, rfl, rfl, trivial⟩ b139) rfl ?_
       refine sq_m (m_box rfl rfl) rfl (fun _ _ => ?_)
       refine sq_q (q_iface rfl Tryd.runUnderlying137 rfl) rfl ?_
       iterate 2 refine sqA rfl rfl ?_
       refine sqK [2, 3] rfl ?_
       refine sc_ret ?_
       refine se_then_ret ?_
       exact se_end (res2 Tryd.results22 rfl rfl) (fun w' hw => .inl ⟨hbad, ⟨_, _, _, rfl⟩, hw.eff⟩)
      refine sqF rfl rfl rfl ?_
      refine sqK [0, 4, 8, 9, 10, 11, 12, 13, 14, 15, 16, 26, 539] rfl ?_
      refine sc_cond_f rfl ?_
      refine scS ?_
      iterate 2 refine scK [0, 4, 8, 9, 10, 11, 12, 13, 14, 15, 16, 26] rfl ?_
      refine sc_mem (fun _ h => h.drop_swap) ?_
      exact hE big _ fp sb _ _ _ _ _ hchk hbig hwd hfp hsb (by omega) (by omega) (by omega) (by omega) (by omega) (.inr ⟨hbad, .inl ⟨by omega, by omega⟩⟩)
     refine sqK [0, 4, 8, 9, 10, 11, 12, 13, 14, 15, 16, 26, 28, 530] rfl ?_
     refine sc_cond_f rfl ?_
     refine scS ?_
     iterate 2 refine scK [0, 4, 8, 9, 10, 11, 12, 13, 14, 15, 16, 26] rfl ?_
     refine sc_mem (fun _ h => h.drop_swap) ?_
     exact hE big _ fp sb _ _ _ _ _ hchk hbig hwd hfp hsb (by omega) (by omega) (by omega) (by omega) (by omega) (.inr ⟨hbad, .inl ⟨by omega, by omega⟩⟩)
    refine sqK [0, 4, 8, 9, 10, 11, 12, 13, 14, 15, 16, 26, 28, 29, 30, 506] rfl ?_
    refine sc_cond_f rfl ?_
    refine scS ?_
    refine scK [0, 4, 8, 9, 10, 11, 12, 13, 14, 15, 16, 26, 28, 29] rfl ?_
    refine sc_seq ?_
    refine scR ?_
    refine sqM rfl rfl ?_
    refine sq_split (q_eql rfl rfl) rfl (fun h116_1 => ?_) (fun h116_1 => ?_)
    ·
     have hpn2 : (hd bs).phnum = 65535 := by omega
     have hes2 : 56 ≤ (hd bs).phes := by have := hchk.phe; rw [hwd] at this; exact this (by omega)
     refine sqK [0, 4, 8, 9, 10, 11, 12, 13, 14, 15, 16, 26, 28, 29, 518] rfl ?_
     refine sc_cond_t rfl ?_
     refine sc_seq ?_
     refine scR ?_
     refine sqM rfl rfl ?_
     refine sq_split (q_lss rfl rfl) rfl (fun h117_1 => ?_) (fun h117_1 => ?_)
     ·
      have _tok := trivial
      refine sqK [0, 4, 8, 9, 10, 11, 13, 14, 15, 16, 26, 28, 29, 520] rfl ?_
      refine sc_cond_t rfl ?_
      refine scR ?_
      iterate 2 refine sqM rfl rfl ?_
      refine sq_q (q_iface rfl Tryd.runUnderlying74 rfl) rfl ?_
      refine sq_q (q_build (vs := [(0, _), (1, _), (2, _)]) ⟨rfl, rfl, rfl, rfl, rfl, rfl, trivial⟩ b139) rfl ?_
      refine sq_m (m_box rfl rfl) rfl (fun _ _ => ?_)
      refine sq_q (q_iface rfl Tryd.runUnderlying137 rfl) rfl ?_
      iterate 2 refine sqA rfl rfl ?_
      refine sqK [2, 3] rfl ?_
      refine sc_ret ?_
      iterate 3 refine se_then_ret ?_
      exact se_end (res2 Tryd.results22 rfl rfl) (fun w' hw => .inl ⟨hbad, ⟨_, _, _, rfl⟩, hw.eff⟩)
     refine sqK [0, 4, 8, 9, 10, 11, 13, 14, 15, 16, 26, 28, 29, 520] rfl ?_
     refine sc_cond_f rfl ?_
     refine scS ?_
     refine scK [0, 4, 8, 9, 10, 11, 13, 14, 15, 16, 26, 28, 29] rfl ?_
     refine sc_region ?_
     refine sqM rfl rfl ?_
     refine sq_q (q_conv rfl Tryd.runUnderlying74 Tryd.runUnderlying3 (w_i64 (by omega) (by omega))) rfl ?_
     refine sqA rfl rfl ?_
     refine sqKR [0, 4, 8, 9, 10, 11, 12, 13, 14, 15, 16, 26, 28] rfl ?_
     refine sqM rfl rfl ?_
     refine sq_split (q_eql rfl rfl) rfl (fun h120_1 => ?_) (fun h120_1 => ?_)
     ·
      have _tok := trivial
      refine sqK [0, 4, 8, 9, 10, 11, 12, 13, 14, 15, 16, 26, 28, 530] rfl ?_
      refine sc_cond_t rfl ?_
      refine scR ?_
      refine sqM rfl rfl ?_
      refine sq_q (q_conv rfl Tryd.runUnderlying74 Tryd.runUnderlying3 (w_i64 (by omega) (by omega))) rfl ?_
      refine sqA rfl rfl ?_
      refine sqKR [0, 4, 8, 9, 10, 11, 12, 13, 14, 15, 16, 26] rfl ?_
      refine sqM rfl rfl ?_
      refine sq_split (q_lss rfl rfl) rfl (fun h122_1 => ?_) (fun h122_1 => ?_)
      ·
       have _tok := trivial
       refine sqM rfl rfl ?_
       iterate 3 refine sq_gn rfl rfl rfl rfl ?_
       refine sqT rfl rfl rfl ?_
       refine sqK [0, 4, 8, 9, 10, 11, 12, 13, 14, 15, 16, 26, 539] rfl ?_
       refine sc_cond_t rfl ?_
       refine scR ?_
       iterate 2 refine sqM rfl rfl ?_
       refine sq_q (q_iface rfl Tryd.runUnderlying3 rfl) rfl ?_
       refine sq_q (q_build (vs := [(0, _), (1, _), (2, _)]) ⟨rfl, rfl, rfl, rfl, rfl, rfl, trivial⟩ b139) rfl ?_
       refine sq_m (m_box rfl rfl) rfl (fun _ _ => ?_)
       refine sq_q (q_iface rfl Tryd.runUnderlying137 rfl) rfl ?_
       iterate 2 refine sqA rfl rfl ?_
       refine sqK [2, 3] rfl ?_
       refine sc_ret ?_
       refine se_then_ret ?_
       exact se_end (res2 Tryd.results22 rfl rfl) (fun w' hw => .inl ⟨hbad, ⟨_, _, _, rfl⟩, hw.eff⟩)
      refine sqM rfl rfl ?_
      refine sq_gy rfl rfl rfl ?_
      refine sqM rfl rfl ?_
      refine sq_gy rfl rfl rfl ?_
      refine sqM rfl rfl ?_
      refine sq_gy rfl rfl rfl ?_
      refine sq_split (q_geq rfl rfl) rfl (fun h122_5 => ?_) (fun h122_5 => ?_)
      ·
       have _tok := trivial
       refine sqF rfl rfl rfl ?_
       refine sqK [0, 4, 8, 9, 10, 11, 12, 13, 14, 15, 16, 26, 539] rfl ?_
       refine sc_cond_t rfl ?_
       refine scR ?_
       iterate 2 refine sqM rfl rfl ?_
       refine sq_q (q_iface rfl Tryd.runUnderlying3 rfl) rfl ?_
       refine sq_q (q_build (vs := [(0, _), (1, _), (2, _)]) ⟨rfl, rfl, rfl, rfl, rfl, rfl, trivial⟩ b139) rfl ?_
       refine sq_m (m_box rfl rfl) rfl (fun _ _ => ?_)
       refine sq_q (q_iface rfl Tryd.runUnderlying137 rfl) rfl ?_
       iterate 2 refine sqA rfl rfl ?_
       refine sqK [2, 3] rfl ?_
       refine sc_ret ?_
       refine se_then_ret ?_
       exact se_end (res2 Tryd.results22 rfl rfl) (fun w' hw => .inl ⟨hbad, ⟨_, _, _, rfl⟩, hw.eff⟩)
      refine sqF rfl rfl rfl ?_
      refine sqK [0, 4, 8, 9, 10, 11, 12, 13, 14, 15, 16, 26, 539] rfl ?_
      refine sc_cond_f rfl ?_
      refine scS ?_
      iterate 2 refine scK [0, 4, 8, 9, 10, 11, 12, 13, 14, 15, 16, 26] rfl ?_
      refine sc_mem (fun _ h => h.drop_swap) ?_
      exact hE big _ fp sb _ _ _ _ _ hchk hbig hwd hfp hsb (by omega) (by omega) (by omega) (by omega) (by omega) (.inr ⟨hbad, .inl ⟨by omega, by omega⟩⟩)
     refine sqK [0, 4, 8, 9, 10, 11, 12, 13, 14, 15, 16, 26, 28, 530] rfl ?_
     refine sc_cond_f rfl ?_
     refine scS ?_
     iterate 2 refine scK [0, 4, 8, 9, 10, 11, 12, 13, 14, 15, 16, 26] rfl ?_
     refine sc_mem (fun _ h => h.drop_swap) ?_
     exact hE big _ fp sb _ _ _ _ _ hchk hbig hwd hfp hsb (by omega) (by omega) (by omega) (by omega) (by omega) (.inr ⟨hbad, .inl ⟨by omega, by omega⟩⟩)
    refine sqK [0, 4, 8, 9, 10, 11, 12, 13, 14, 15, 16, 26, 28, 29, 518] rfl ?_
    refine sc_cond_f rfl ?_
    refine scS ?_
    refine scK [0, 4, 8, 9, 10, 11, 12, 13, 14, 15, 16, 26, 28] rfl ?_
    refine scR ?_
    refine sqM rfl rfl ?_
    refine sq_split (q_eql rfl rfl) rfl (fun h120_1 => ?_) (fun h120_1 => ?_)
    ·
     have _tok := trivial
     refine sqK [0, 4, 8, 9, 10, 11, 12, 13, 14, 15, 16, 26, 28, 530] rfl ?_
     refine sc_cond_t rfl ?_
     refine scR ?_
     refine sqM rfl rfl ?_
     refine sq_q (q_conv rfl Tryd.runUnderlying74 Tryd.runUnderlying3 (w_i64 (by omega) (by omega))) rfl ?_
     refine sqA rfl rfl ?_
     refine sqKR [0, 4, 8, 9, 10, 11, 12, 13, 14, 15, 16, 26] rfl ?_
     refine sqM rfl rfl ?_
     refine sq_split (q_lss rfl rfl) rfl (fun h122_1 => ?_) (fun h122_1 => ?_)
     ·
      have _tok := trivial
      refine sqM rfl rfl ?_
      iterate 3 refine sq_gn rfl rfl rfl rfl ?_
      refine sqT rfl rfl rfl ?_
      refine sqK [0, 4, 8, 9, 10, 11, 12, 13, 14, 15, 16, 26, 539] rfl ?_
      refine sc_cond_t rfl ?_
      refine scR ?_
      iterate 2 refine sqM rfl rfl ?_
      refine sq_q (q_iface rfl Tryd.runUnderlying3 rfl) rfl ?_
      refine sq_q (q_build (vs := [(0, _), (1, _), (2, _)]) ⟨rfl, rfl, rfl, rfl, rfl, rfl, trivial⟩ b139) rfl ?_
      refine sq_m (m_box rfl rfl) rfl (fun _ _ => ?_)
      refine sq_q (q_iface rfl Tryd.runUnderlying137 rfl) rfl ?_
      iterate 2 refine sqA rfl rfl ?_
      refine sqK [2, 3] rfl ?_
      refine sc_ret ?_
      refine se_then_ret ?_
      exact se_end (res2 Tryd.results22 rfl rfl) (fun w' hw => .inl ⟨hbad, ⟨_, _, _, rfl⟩, hw.eff⟩)
     refine sqM rfl rfl ?_
     refine sq_gy rfl rfl rfl ?_
     refine sqM rfl rfl ?_
     refine sq_gy rfl rfl rfl ?_
     refine sqM rfl rfl ?_
     refine sq_gy rfl rfl rfl ?_
     refine sq_split (q_geq rfl rfl) rfl (fun h122_5 => ?_) (fun h122_5 => ?_)
     ·
      have _tok := trivial
      refine sqF rfl rfl rfl ?_
      refine sqK [0, 4, 8, 9, 10, 11, 12, 13, 14, 15, 16, 26, 539] rfl ?_
      refine sc_cond_t rfl ?_
      refine scR ?_
      iterate 2 refine sqM rfl rfl ?_
      refine sq_q (q_iface rfl Tryd.runUnderlying3 rfl) rfl ?_
      refine sq_q (q_build (vs := [(0, _), (1, _), (2, _)]) ⟨rfl, rfl, rfl, rfl, rfl, rfl, trivial⟩ b139) rfl ?_
      refine sq_m (m_box rfl rfl) rfl (fun _ _ => ?_)
      refine sq_q (q_iface rfl Tryd.runUnderlying137 rfl) rfl ?_
      iterate 2 refine sqA rfl rfl ?_
      refine sqK [2, 3] rfl ?_
      refine sc_ret ?_
      refine se_then_ret ?_
      exact se_end (res2 Tryd.results22 rfl rfl) (fun w' hw => .inl ⟨hbad, ⟨_, _, _, rfl⟩, hw.eff⟩)
     refine sqF rfl rfl rfl ?_
     refine sqK [0, 4, 8, 9, 10, 11, 12, 13, 14, 15, 16, 26, 539] rfl ?_
     refine sc_cond_f rfl ?_
     refine scS ?_
     iterate 2 refine scK [0, 4, 8, 9, 10, 11, 12, 13, 14, 15, 16, 26] rfl ?_
     refine sc_mem (fun _ h => h.drop_swap) ?_
     exact hE big _ fp sb _ _ _ _ _ hchk hbig hwd hfp hsb (by omega) (by omega) (by omega) (by omega) (by omega) (.inr ⟨hbad, .inl ⟨by omega, by omega⟩⟩)
    refine sqK [0, 4, 8, 9, 10, 11, 12, 13, 14, 15, 16, 26, 28, 530] rfl ?_
    refine sc_cond_f rfl ?_
    refine scS ?_
    iterate 2 refine scK [0, 4, 8, 9, 10, 11, 12, 13, 14, 15, 16, 26] rfl ?_
    refine sc_mem (fun _ h => h.drop_swap) ?_
    exact hE big _ fp sb _ _ _ _ _ hchk hbig hwd hfp hsb (by omega) (by omega) (by omega) (by omega) (by omega) (.inl ⟨rfl, rfl, rfl, by omega⟩)
   dsimp only at hv hmm
   subst hv hmm
   refine sqKR [0, 4, 8, 9, 10, 11, 12, 13, 14, 15, 16, 26, 33, 34] rfl ?_
   refine sqM rfl rfl ?_
   refine sq_q (q_iface_neq_nil rfl rfl Tryd.runUnderlying86) rfl ?_
   refine sqK [0, 4, 8, 9, 10, 11, 12, 13, 14, 15, 16, 26, 33, 34, 479] rfl ?_
   refine sc_cond_t rfl ?_
   refine scR ?_
   refine sqM rfl rfl ?_
   iterate 2 refine sqA rfl rfl ?_
   refine sqK [2, 3] rfl ?_
   refine sc_ret ?_
   refine se_then_ret ?_
   refine se_block_ret ?_
   iterate 2 refine se_then_ret ?_
   exact se_end (res2 Tryd.results22 rfl rfl) (fun w' hw => .inl ⟨hbad, ⟨_, _, _, rfl⟩, hw.eff⟩)
  refine sq_gy rfl rfl rfl ?_
  refine sqF rfl rfl rfl ?_
  refine sqT rfl rfl rfl ?_
  refine sqK [0, 4, 8, 9, 10, 11, 12, 13, 14, 15, 16, 26, 433] rfl ?_
  refine sc_cond_f rfl ?_
  refine scS ?_
  iterate 2 refine scK [0, 4, 8, 9, 10, 11, 12, 13, 14, 15, 16, 26] rfl ?_
  exact hE big _ fp sb _ _ _ _ _ hchk hbig hwd hfp hsb (by omega) (by omega) (by omega) (by omega) (by omega) (.inl ⟨rfl, rfl, rfl, by omega⟩)
 refine sqM rfl rfl ?_
 iterate 3 refine sq_gn rfl rfl rfl rfl ?_
 iterate 2 refine sq_gu rfl rfl rfl ?_
 refine sq_gn rfl rfl rfl rfl ?_
 refine sqF rfl rfl rfl ?_
 refine sqK [0, 4, 8, 9, 10, 11, 12, 13, 14, 15, 16, 26, 433] rfl ?_
 refine sc_cond_f rfl ?_
 refine scS ?_
 iterate 2 refine scK [0, 4, 8, 9, 10, 11, 12, 13, 14, 15, 16, 26] rfl ?_
 exact hE big _ fp sb _ _ _ _ _ hchk hbig hwd hfp hsb (by omega) (by omega) (by omega) (by omega) (by omega) (.inl ⟨rfl, rfl, rfl, by omega⟩)

theorem nf_d {g gu : Gx} {bs : List UInt8} {u : Value} {ms : MM} {w0 : World} (cx : Cx g gu bs u ms w0) (hE : StE g gu bs u ms w0) : StD g gu bs u ms w0 := by
 intro big wide fp sb N hchk hbig hwd hfp hsb
 cases wide
 ·
  exact nf_d_false cx hE big fp sb N hchk hbig hwd hfp hsb
 ·
  exact nf_d_true cx hE big fp sb N hchk hbig hwd hfp hsb

end Go.Proofs.YtgkjnkhoopcjgaaDoor
/- NewFile: the table of programs. Conditions: the bytes lie in memory, at most 8192 of them; the header's checks hold. -/
namespace Go.Proofs.YtgkjnkhoopcjgaaDoor
open Go.Sx
set_option maxRecDepth 100000
set_option maxHeartbeats 2000000

noncomputable def r32 : Code := r29.tl.tl.tl
def StE2 (g gu : Gx) (bs : List UInt8) (u : Value) (ms : MM) (w0 : World) : Prop := ∀ (big wide : Bool) (fp sb cur N phn : Nat) (shn nms : Int) (k : Nat), ChkOk bs → isBig bs = big → isWide bs = wide → w0.heap.size ≤ fp → w0.heap.size ≤ sb → phn < 4294967296 → -9223372036854775808 ≤ shn → shn ≤ 9223372036854775807 → -9223372036854775808 ≤ nms → nms ≤ 9223372036854775807 → Mode bs phn shn nms → k ≤ 1310720 →
 Sc Tryd.prog r32 (bodyPost Tryd.prog Tryd.f22 (NF bs u ((1, g.o) :: (0, gu.o) :: ms) w0)) 1287 w0 E0 [(0, .iface 117 u), (4, .pointer (some ⟨sb, 0, none⟩)), (8, .pointer (some ⟨fp, 0, none⟩)), (9, .int .u8 (ordN big)), (10, .int .i64 ((hd bs).phoff : Int)), (11, .int .i64 ((hd bs).phes : Int)), (12, .int .i64 (phn : Int)), (13, .int .i64 ((hd bs).shoff : Int)), (14, .int .i64 ((hd bs).shes : Int)), (15, .int .i64 shn), (16, .int .i64 nms), (26, .int .i64 ((wd wide 40 64 : Nat) : Int)), (35, .int .i64 (k : Int))] N
  ((fp, fileO bs big (hd bs).type (hd bs).machine (hd bs).entry (.slice none 0 0) (.slice none 0 0)) :: (sb, srO (.iface 117 u) 0 cur (limOf 0 9223372036854775807) (.int .i64 (9223372036854775807 : Nat))) :: (1, g.o) :: (0, gu.o) :: ms)

theorem mode_big {bs : List UInt8} {phn : Nat} {shn nms : Int} (h : Mode bs phn shn nms) (hp : 65536 ≤ phn) : ¬ Good bs := by
 rcases h with ⟨h1, _⟩ | ⟨h1, _⟩
 ·
  have := (hd_lt bs).phnum; omega
 ·
  exact h1
theorem quo_big {p : Nat} (h0 : 0 < p) (h : p < 4294967296) : ∃ q, 18446744073709551615 / p = q ∧ 65536 ≤ q ∧ q ≤ 18446744073709551615 :=
 ⟨_, rfl, (Nat.le_div_iff_mul_le h0).2 (by omega), Nat.div_le_self _ _⟩
theorem mul_small {a b : Nat} (ha : a < 4294967296) (hb : b < 65536) : a * b < 281474976710656 := by
 have h1 : a * b ≤ 4294967295 * b := Nat.mul_le_mul_right _ (by omega)
 omega
/-- A call of sliceCapWithSize. -/
theorem cap8_inv {w0 : World} {E : Nat → Prop} {fm : FM} {N c : Nat} {mm : MM} {x y : Operand} {ts : Array TypeId} {d : Option Nat} {ty : TypeId} {pos : String} {after : Array Edge} {gd : Option (Nat × Bool)} (hx : fm.ev x = some (.int .u64 8)) (hy : fm.ev y = some (.int .u64 (c : Int))) (hc : c < 18446744073709551616) :
  Main Tryd.prog w0 E fm N mm ⟨d, .call { callee := .value (.func 40), args := #[x, y], argTypes := ts }, ty, pos, after, gd⟩ (fun r : Int => .int .i64 r) (fun _ => N) (fun _ => mm) (fun r => (r = -1 ∧ 65536 ≤ c) ∨ ∃ k : Nat, r = k ∧ k ≤ 1310720) :=
 m_call (args2 hx hy) Tryd.call40 fun w hw => (cap40_8 hc).mono fun en w' ⟨r, h1, h2, h3⟩ => ⟨r, h3, h1, hw.same h2⟩

theorem nf_e1 {g gu : Gx} {bs : List UInt8} {u : Value} {ms : MM} {w0 : World} (cx : Cx g gu bs u ms w0) (hE2 : StE2 g gu bs u ms w0) : StE g gu bs u ms w0 := by
 intro big wide fp sb cur N phn shn nms hchk hbig hwd hfp hsb hphn hshn1 hshn2 hnms1 hnms2 hmode
 obtain ⟨hl1, hl2, hl3, hl4, hl5, hl6, hl7, hl8, hl9, hl10, hl11⟩ := hd_lt bs
 refine scR ?_
 refine sqM rfl rfl ?_
 refine sq_q (q_conv rfl Tryd.runUnderlying3 Tryd.runUnderlying23 (w_u64 (by omega) (by omega))) rfl ?_
 refine sq_m (cap8_inv rfl rfl (by omega)) rfl (fun r hr => ?_)
 refine sqA rfl rfl ?_
 rcases hr with ⟨rfl, hr⟩ | ⟨k, rfl, hr⟩
 ·
  have hbad := mode_big hmode hr
  refine sqK [0, 4, 8, 9, 10, 11, 12, 13, 14, 15, 16, 26, 35] rfl ?_
  refine sc_seq ?_
  refine scR ?_
  refine sqM rfl rfl ?_
  refine sq_q (q_decT (q_lss rfl rfl) (by omega)) rfl ?_
  refine sqK [0, 4, 8, 9, 10, 11, 12, 13, 14, 15, 16, 26, 35, 550] rfl ?_
  refine sc_cond_t rfl ?_
  refine scR ?_
  refine sqM rfl rfl ?_
  refine sq_q (q_iface rfl Tryd.runUnderlying3 rfl) rfl ?_
  refine sq_q (q_build (vs := [(0, _), (1, _), (2, _)]) ⟨rfl, rfl, rfl, rfl, rfl, rfl, trivial⟩ b139) rfl ?_
  refine sq_m (m_box rfl rfl) rfl (fun _ _ => ?_)
  refine sq_q (q_iface rfl Tryd.runUnderlying137 rfl) rfl ?_
  iterate 2 refine sqA rfl rfl ?_
  refine sqK [2, 3] rfl ?_
  refine sc_ret ?_
  refine se_then_ret ?_
  exact se_end (res2 Tryd.results22 rfl rfl) (fun w' hw => .inl ⟨hbad, ⟨_, _, _, rfl⟩, hw.eff⟩)
 refine sqK [0, 4, 8, 9, 10, 11, 12, 13, 14, 15, 16, 26, 35] rfl ?_
 refine sc_seq ?_
 refine scR ?_
 refine sqM rfl rfl ?_
 refine sq_q (q_decF (q_lss rfl rfl) (by omega)) rfl ?_
 refine sqK [0, 4, 8, 9, 10, 11, 12, 13, 14, 15, 16, 26, 35, 550] rfl ?_
 refine sc_cond_f rfl ?_
 refine scS ?_
 refine scK [0, 4, 8, 9, 10, 11, 12, 13, 14, 15, 16, 26, 35] rfl ?_
 refine sc_seq ?_
 refine scR ?_
 refine sqM rfl rfl ?_
 refine sq_split (q_gtr rfl rfl) rfl (fun h127_1 => ?_) (fun h127_1 => ?_)
 ·
  obtain ⟨q, hq, hq1, hq2⟩ := quo_big (p := phn) (by omega) hphn
  refine sqM rfl rfl ?_
  refine sq_gy rfl rfl rfl ?_
  refine sqM rfl rfl ?_
  refine sq_gy rfl rfl rfl ?_
  refine sq_q (q_conv rfl Tryd.runUnderlying3 Tryd.runUnderlying23 (w_u64 (by omega) (by omega))) rfl ?_
  refine sq_gy rfl rfl rfl ?_
  refine sq_q (q_quoN (a := 18446744073709551615) (b := phn) (r := q) rfl rfl (by omega) hq (w_u64 (by omega) (by omega))) rfl ?_
  refine sq_gy rfl rfl rfl ?_
  refine sqM rfl rfl ?_
  refine sq_gy rfl rfl rfl ?_
  refine sq_q (q_conv rfl Tryd.runUnderlying3 Tryd.runUnderlying23 (w_u64 (by omega) (by omega))) rfl ?_
  refine sq_gy rfl rfl rfl ?_
  refine sq_q (q_decF (q_lss rfl rfl) (by omega)) rfl ?_
  refine sqT rfl rfl rfl ?_
  refine sqK [0, 4, 8, 9, 10, 11, 12, 13, 14, 15, 16, 26, 35, 565] rfl ?_
  refine sc_cond_f rfl ?_
  refine scS ?_
  iterate 2 refine scK [0, 4, 8, 9, 10, 11, 12, 13, 14, 15, 16, 26, 35] rfl ?_
  exact hE2 _ _ _ _ _ _ _ _ _ k hchk hbig hwd hfp hsb hphn hshn1 hshn2 hnms1 hnms2 hmode hr
 refine sqM rfl rfl ?_
 iterate 6 refine sq_gn rfl rfl rfl rfl ?_
 refine sqF rfl rfl rfl ?_
 refine sqK [0, 4, 8, 9, 10, 11, 12, 13, 14, 15, 16, 26, 35, 565] rfl ?_
 refine sc_cond_f rfl ?_
 refine scS ?_
 iterate 2 refine scK [0, 4, 8, 9, 10, 11, 12, 13, 14, 15, 16, 26, 35] rfl ?_
 exact hE2 _ _ _ _ _ _ _ _ _ k hchk hbig hwd hfp hsb hphn hshn1 hshn2 hnms1 hnms2 hmode hr

end Go.Proofs.YtgkjnkhoopcjgaaDoor
/- NewFile: the loop over the programs. Conditions: the bytes lie in memory, at most 8192 of them; the header's checks hold. -/
namespace Go.Proofs.YtgkjnkhoopcjgaaDoor
open Go.Sx
set_option maxRecDepth 100000
set_option maxHeartbeats 4000000

/-- The numbers behind the programs. -/
def Mode2 (bs : List UInt8) (shn nms : Int) : Prop :=
 (shn = (hd bs).shnum ∧ nms = (hd bs).names ∧ ((hd bs).shnum = 0 → (hd bs).shoff = 0)) ∨ (¬ Good bs ∧ (shn < 0 ∨ 65280 ≤ shn))
/-- The programs' table is whole and right. -/
structure PrOk (bs : List UInt8) : Prop where
 chk : ChkOk bs
 pcut : CutOk bs (hd bs).phoff ((hd bs).phnum * (hd bs).phes)
 ps : ∀ i, i < (hd bs).phnum → (prow bs i).Ok

def StF (g gu : Gx) (bs : List UInt8) (u : Value) (ms : MM) (w0 : World) : Prop := ∀ (big wide : Bool) (fp sb cur N pb pcap : Nat) (shn nms : Int) (f : Nat → Nat × Nat) (pad : List Value), PrOk bs → isBig bs = big → isWide bs = wide → w0.heap.size ≤ fp → w0.heap.size ≤ sb → -9223372036854775808 ≤ shn → shn ≤ 9223372036854775807 → -9223372036854775808 ≤ nms → nms ≤ 9223372036854775807 → Mode2 bs shn nms → w0.heap.size ≤ pb → (∀ j, j < (hd bs).phnum → w0.heap.size ≤ (f j).1 ∧ w0.heap.size ≤ (f j).2) →
 Sc Tryd.prog r36 (bodyPost Tryd.prog Tryd.f22 (NF bs u ((1, g.o) :: (0, gu.o) :: ms) w0)) 1287 w0 E0 [(0, .iface 117 u), (4, .pointer (some ⟨sb, 0, none⟩)), (8, .pointer (some ⟨fp, 0, none⟩)), (9, .int .u8 (ordN big)), (13, .int .i64 ((hd bs).shoff : Int)), (14, .int .i64 ((hd bs).shes : Int)), (15, .int .i64 shn), (16, .int .i64 nms), (26, .int .i64 ((wd wide 40 64 : Nat) : Int))] N
  ((pb, .cells (ptrs f (hd bs).phnum ++ pad).toArray 89 (0, 0)) :: (fp, fileO bs big (hd bs).type (hd bs).machine (hd bs).entry (.slice none 0 0) (.slice (some ⟨pb, 0, none⟩) (hd bs).phnum pcap)) :: (sb, srO (.iface 117 u) 0 cur (limOf 0 9223372036854775807) (.int .i64 (9223372036854775807 : Nat))) :: (1, g.o) :: (0, gu.o) :: (pmem bs u f (hd bs).phnum ++ ms))

theorem wneg {x : Nat} (h : x < 18446744073709551616) : IntKind.i64.wrap (x : Int) < 0 ↔ 9223372036854775808 ≤ x := by rw [IntKind.wrap_i64]; omega

/-- A read of a table, by a call. -/
theorem rda_inv {g gu : Gx} {w0 : World} {E : Nat → Prop} {fm : FM} {N : Nat} {mm ms : MM} {bs : List UInt8} {sb off n : Nat} (h : RC g 81 (.pointer (some ⟨sb, 0, none⟩)) ms (RD g bs)) {x y z : Operand} {ts : Array TypeId} {d : Option Nat} {ty : TypeId} {pos : String} {after : Array Edge} {gd : Option (Nat × Bool)}
  (hoff : off ≤ 9223372036854775807) (hD : bs.length ≤ 8192) (hn : n < 18446744073709551616) (hs : List.Subset ms mm) (h1 : (1, g.o) ∈ mm) (h0 : (0, gu.o) ∈ mm)
  (hx : fm.ev x = some (.iface 81 (.pointer (some ⟨sb, 0, none⟩)))) (hy : fm.ev y = some (.int .u64 ((n : Nat) : Int))) (hz : fm.ev z = some (.int .i64 ((off : Nat) : Int))) :
  Main Tryd.prog w0 E fm N mm ⟨d, .call { callee := .value (.func 41), args := #[x, y, z], argTypes := ts }, ty, pos, after, gd⟩ (fun q : DRes => .tuple #[q.v0, q.v1]) (fun q => q.N) (fun q => q.nn ++ mm)
   (fun q => (CutOk bs off n ∧ ∃ b, N ≤ b ∧ q.v0 = .slice (some ⟨b, 0, none⟩) n n ∧ q.v1 = .nilIface ∧ q.nn = [(b, .cells ((cut bs off n).map u8v).toArray 5 (0, 0))] ∧ N ≤ q.N) ∨ (¬ CutOk bs off n ∧ q.v0 = .slice none 0 0 ∧ (∃ t u, q.v1 = .iface t u) ∧ q.nn = [] ∧ N ≤ q.N)) := by
 refine m_call (args3 hx hy hz) Tryd.call41 fun w hw => ?_
 refine (rda41 h hoff (by omega) hs h1 h0 hw.nd hw.has hn).mono fun en w' hd => ?_
 have hsz := hw.size
 rcases hd with ⟨hc, b, hb, hen, hh, he⟩ | ⟨hc, ⟨t, u, hen⟩, he⟩
 ·
  refine ⟨⟨_, _, [(b, _)], w'.heap.size⟩, .inl ⟨hc.symm, b, by rw [← hsz]; exact hb, rfl, rfl, rfl, by rw [← hsz]; exact he.size⟩, hen, ?_⟩
  exact hw.call_new he [(b, _)] (fun p hp => by rw [List.mem_singleton.1 hp]; exact hh) (fun p hp => by rw [List.mem_singleton.1 hp, ← hsz]; exact hb) (by simp)
 ·
  refine ⟨⟨_, _, [], w'.heap.size⟩, .inr ⟨fun h => hc h.symm, rfl, ⟨t, u, rfl⟩, rfl, by rw [← hsz]; exact he.size⟩, hen, ?_⟩
  exact hw.call_new he [] (fun p hp => by cases hp) (fun p hp => by cases hp) List.nodup_nil

section
variable {bs : List UInt8} {big : Bool} {a n k m c b v : Nat} {e : TypeId} {fr : Nat × Nat} {w : World}
theorem tb32 (hv : fld big bs (a + k) 4 = v) (hn : CutOk bs a n) (ho : k + 4 ≤ n) (hm : 4 ≤ m) (hc : m ≤ c) (hb : w.heap[b]? = some (.cells ((cut bs a n).map u8v).toArray e fr)) :
  Calls Tryd.prog 35 #[.int .u8 (ordN big), .slice (some ⟨b, k, none⟩) m c] w fun e w' => e = .returned (.int .u32 ((v : Nat) : Int)) ∧ Same w w' := by
 subst hv
 refine rd32 big hb hm hc ?_ (At_cut ho)
 rcases hn with rfl | hn
 ·
  omega
 ·
  simp; omega
theorem tb64 (hv : fld big bs (a + k) 8 = v) (hn : CutOk bs a n) (ho : k + 8 ≤ n) (hm : 8 ≤ m) (hc : m ≤ c) (hb : w.heap[b]? = some (.cells ((cut bs a n).map u8v).toArray e fr)) :
  Calls Tryd.prog 36 #[.int .u8 (ordN big), .slice (some ⟨b, k, none⟩) m c] w fun e w' => e = .returned (.int .u64 ((v : Nat) : Int)) ∧ Same w w' := by
 subst hv
 refine rd64 big hb hm hc ?_ (At_cut ho)
 rcases hn with rfl | hn
 ·
  omega
 ·
  simp; omega
end
theorem mode_next {bs : List UInt8} {phn : Nat} {shn nms : Int} (h : Mode bs phn shn nms) (hc : CutOk bs (hd bs).phoff (phn * (hd bs).phes)) (hb : bs.length ≤ 8192) : phn = (hd bs).phnum ∧ Mode2 bs shn nms := by
 rcases h with ⟨h1, h2⟩ | ⟨h1, ⟨h2, h3⟩ | ⟨h2, h3⟩⟩
 ·
  exact ⟨h1, .inl h2⟩
 ·
  exfalso
  have : 65535 * 32 ≤ phn * (hd bs).phes := Nat.mul_le_mul h2 h3
  rcases hc with hc | hc <;> omega
 ·
  exact ⟨h2, .inr ⟨h1, h3⟩⟩
theorem mode_cut {bs : List UInt8} {phn : Nat} {shn nms : Int} (h : Mode bs phn shn nms) (hc : ¬ CutOk bs (hd bs).phoff (phn * (hd bs).phes)) : ¬ Good bs := by
 rcases h with ⟨rfl, _⟩ | ⟨h1, _⟩
 ·
  exact fun hg => hc hg.pcut
 ·
  exact h1
theorem row_fit {i n e o : Nat} (h : i < n) (ho : o = i * e) : o + e ≤ n * e := by
 have : (i + 1) * e ≤ n * e := Nat.mul_le_mul_right _ h
 rw [Nat.succ_mul] at this
 omega

/-- A round of the loop over the programs. -/
structure PL where
 i : Nat
 N : Nat
 pb : Nat
 cap : Nat
 pad : List Value
 f : Nat → Nat × Nat
def plS (u : Value) (bs : List UInt8) (big wide : Bool) (fp sb db n : Nat) (shn nms : Int) (z : PL) : FM := [(0, .iface 117 u), (4, .pointer (some ⟨sb, 0, none⟩)), (8, .pointer (some ⟨fp, 0, none⟩)), (9, .int .u8 (ordN big)), (10, .int .i64 ((hd bs).phoff : Int)), (11, .int .i64 ((hd bs).phes : Int)), (12, .int .i64 ((hd bs).phnum : Int)), (13, .int .i64 ((hd bs).shoff : Int)), (14, .int .i64 ((hd bs).shes : Int)), (15, .int .i64 shn), (16, .int .i64 nms), (26, .int .i64 ((wd wide 40 64 : Nat) : Int)), (36, .slice (some ⟨db, 0, none⟩) n n), (38, .int .i64 (z.i : Int))]
def plM (g gu : Gx) (u : Value) (bs : List UInt8) (ms : MM) (big : Bool) (fp sb cur db n : Nat) (z : PL) : MM :=
 (db, .cells ((cut bs (hd bs).phoff n).map u8v).toArray 5 (0, 0)) :: (z.pb, .cells (ptrs z.f z.i ++ z.pad).toArray 89 (0, 0)) :: (fp, fileO bs big (hd bs).type (hd bs).machine (hd bs).entry (.slice none 0 0) (.slice (some ⟨z.pb, 0, none⟩) z.i z.cap)) :: (sb, srO (.iface 117 u) 0 cur (limOf 0 9223372036854775807) (.int .i64 (9223372036854775807 : Nat))) :: (1, g.o) :: (0, gu.o) :: (pmem bs u z.f z.i ++ ms)
structure PLF (bs : List UInt8) (w0 : World) (z : PL) : Prop where
 i : z.i ≤ (hd bs).phnum
 ps : ∀ j, j < z.i → (prow bs j).Ok
 cap : z.i ≤ z.cap
 max : z.cap ≤ maxLen
 pad : z.pad.length = z.cap - z.i
 pb : w0.heap.size ≤ z.pb
 new : ∀ j, j < z.i → w0.heap.size ≤ (z.f j).1 ∧ w0.heap.size ≤ (z.f j).2

theorem sub_sr {q1 q2 c : Nat × Obj} {ms : MM} (a b : Nat × Obj) : List.Subset (c :: ms) (a :: b :: c :: q1 :: q2 :: ms) := fun p hp => by
 rcases List.mem_cons.1 hp with rfl | hp
 ·
  simp
 ·
  simp [hp]
theorem t89_size : Tryd.t89.size = 1 := by kernel_rfl
theorem t89_bytes : Tryd.t89.bytes = 8 := by kernel_rfl
theorem mk89 {n : Nat} (h : n ≤ 1310720) : Tryd.t89.bytes * n ≤ 281474976710656 := by rw [t89_bytes]; omega
theorem nd_sr {g gu : Gx} {a b c : Nat × Obj} {ms : MM} (h : ((a :: b :: c :: (1, g.o) :: (0, gu.o) :: ms).map Prod.fst).Nodup) : ((c :: (1, g.o) :: ms).map Prod.fst).Nodup :=
 (List.Sublist.map Prod.fst (.cons _ (.cons _ (.cons_cons _ (.cons_cons _ (.cons _ (List.Sublist.refl _))))))).nodup h
theorem _root_.Go.Sx.Mem.cast_mm {w0 w : World} {E : Nat → Prop} {N : Nat} {mm ms : MM} (h : Mem w0 E N mm w) (hp : ∃ l, l.Sublist mm ∧ ms.Perm l) : Mem w0 E N ms w := by
 obtain ⟨l, h1, h2⟩ := hp
 exact (h.sublist h1).perm h2
theorem pmem_next {bs : List UInt8} {u : Value} {f : Nat → Nat × Nat} {i a b : Nat} : pmem bs u (fun j => if j = i then (a, b) else f j) (i + 1) = (a, progO (prow bs i) b) :: (b, rdO u (prow bs i).off (prow bs i).filesz) :: pmem bs u f i := by
 simp only [pmem, mem2, if_pos]
 congr 2
 exact mem2_congr fun j hj => by rw [if_neg (by omega)]; exact ⟨rfl, rfl, rfl⟩
theorem ptrs_next {f : Nat → Nat × Nat} {i a b : Nat} : ptrs (fun j => if j = i then (a, b) else f j) (i + 1) = ptrs f i ++ [.pointer (some ⟨a, 0, none⟩)] := by
 rw [ptrs_succ, if_pos rfl, ptrs_congr (f' := f) fun j hj => if_neg (by omega)]
theorem perm_round {pb' li s t d fp sb a b : Nat × Obj} {r : MM} : ∃ l, l.Sublist (pb' :: li :: s :: t :: d :: fp :: sb :: a :: b :: r) ∧ (d :: pb' :: fp :: sb :: a :: b :: t :: s :: r).Perm l := by
 refine ⟨_, .cons_cons _ (.cons _ (List.Sublist.refl _)), ?_⟩
 refine List.Perm.trans ?_ (List.perm_middle (l₁ := [pb', s, t]) (a := d) (l₂ := fp :: sb :: a :: b :: r)).symm
 exact .cons _ (.cons _ ((List.perm_append_comm_assoc [fp, sb, a, b] [t, s] r).trans (.swap _ _ _)))
theorem nf_e2_false {g gu : Gx} {bs : List UInt8} {u : Value} {ms : MM} {w0 : World} (cx : Cx g gu bs u ms w0) (hF : StF g gu bs u ms w0) : ∀ (big : Bool) (fp sb cur N phn : Nat) (shn nms : Int) (k : Nat), ChkOk bs → isBig bs = big → isWide bs = false → w0.heap.size ≤ fp → w0.heap.size ≤ sb → phn < 4294967296 → -9223372036854775808 ≤ shn → shn ≤ 9223372036854775807 → -9223372036854775808 ≤ nms → nms ≤ 9223372036854775807 → Mode bs phn shn nms → k ≤ 1310720 →
 Sc Tryd.prog r32 (bodyPost Tryd.prog Tryd.f22 (NF bs u ((1, g.o) :: (0, gu.o) :: ms) w0)) 1287 w0 E0 [(0, .iface 117 u), (4, .pointer (some ⟨sb, 0, none⟩)), (8, .pointer (some ⟨fp, 0, none⟩)), (9, .int .u8 (ordN big)), (10, .int .i64 ((hd bs).phoff : Int)), (11, .int .i64 ((hd bs).phes : Int)), (12, .int .i64 (phn : Int)), (13, .int .i64 ((hd bs).shoff : Int)), (14, .int .i64 ((hd bs).shes : Int)), (15, .int .i64 shn), (16, .int .i64 nms), (26, .int .i64 ((wd false 40 64 : Nat) : Int)), (35, .int .i64 (k : Int))] N
  ((fp, fileO bs big (hd bs).type (hd bs).machine (hd bs).entry (.slice none 0 0) (.slice none 0 0)) :: (sb, srO (.iface 117 u) 0 cur (limOf 0 9223372036854775807) (.int .i64 (9223372036854775807 : Nat))) :: (1, g.o) :: (0, gu.o) :: ms) := by
 intro big fp sb cur N phn shn nms k hchk hbig hwd hfp hsb hphn hshn1 hshn2 hnms1 hnms2 hmode hk
 have c4 : bv bs 4 = 1 := by have := hchk.rd.id.cls; simp [isWide] at hwd; omega
 have blen := cx.len
 have hph := hchk.ph
 obtain ⟨hl1, hl2, hl3, hl4, hl5, hl6, hl7, hl8, hl9, hl10, hl11⟩ := hd_lt bs
 have hms := mul_small hphn hl7
 refine sc_known fun hnd0 hge0 hlt0 => ?_
 refine scR ?_
 iterate 2 refine sqM rfl rfl ?_
 refine sq_m (m_make (kl := .i64) (kc := .i64) (len := 0) (cap := k) (i := Tryd.t89) (z := .pointer none) rfl rfl Tryd.underlying68 (by kernel_rfl) (by kernel_rfl) (by kernel_rfl) rfl (Nat.zero_le _) (mk89 (by omega)) (by omega)) rfl (fun _ _ => ?_)
 refine sq_q (q_nil rfl) rfl ?_
 refine sq_q (q_fieldj (j := 10) rfl Tryd.runUnderlying72 rfl Tryd.sizeOf68 rfl) rfl ?_
 refine sq_m0 ((m_store rfl rfl Tryd.sizeOf68 rfl (i := 1) rfl rfl rfl (by intro h; omega))) (fun _ _ => ?_)
 refine sqKR [0, 4, 8, 9, 10, 11, 12, 13, 14, 15, 16, 26] rfl ?_
 refine sqM rfl rfl ?_
 refine sq_q (q_iface rfl Tryd.runUnderlying81 rfl) rfl ?_
 refine sqM rfl rfl ?_
 refine sq_q (q_conv rfl Tryd.runUnderlying3 Tryd.runUnderlying23 (w_u64 (by omega) (by omega))) rfl ?_
 refine sqM rfl rfl ?_
 refine sq_q (q_conv rfl Tryd.runUnderlying3 Tryd.runUnderlying23 (w_u64 (by omega) (by omega))) rfl ?_
 refine sq_q (q_mul (a := (phn : Int)) (b := ((hd bs).phes : Int)) (r := ((phn * (hd bs).phes : Nat) : Int)) rfl rfl (w_u64e (by rw [Int.natCast_mul]) (by omega) (by omega))) rfl ?_
 refine sqM rfl rfl ?_
 refine sq_known fun hnd1 hge1 hlt1 => ?_
 refine sq_m (rda_inv (gu := gu) (ms := (sb, srO (.iface 117 u) 0 cur (limOf 0 9223372036854775807) (.int .i64 (9223372036854775807 : Nat))) :: ms) (rc_all cx.rc cx.len (nd_sr hnd1)) (by omega) cx.len (by omega) (sub_sr _ _) (by simp) (by simp) rfl rfl rfl) rfl (fun q hq => ?_)
 refine sqM rfl rfl ?_
 iterate 2 refine sq_q (q_extract rfl rfl) rfl ?_
 iterate 2 refine sqA rfl rfl ?_
 obtain ⟨v0, v1, nn, N2⟩ := q
 dsimp only at hq
 rcases hq with ⟨hcut, db, hdb, rfl, rfl, rfl, hN2⟩ | ⟨hcut, rfl, ⟨t2, u2, rfl⟩, rfl, hN2⟩
 ·
  obtain ⟨rfl, hmode2⟩ := mode_next hmode hcut cx.len
  refine sqK [0, 4, 8, 9, 10, 11, 12, 13, 14, 15, 16, 26, 36, 37] rfl ?_
  refine sc_seq ?_
  refine scR ?_
  refine sqM rfl rfl ?_
  refine sq_q (q_nil_neq_nil rfl Tryd.runUnderlying86) rfl ?_
  refine sqK [0, 4, 8, 9, 10, 11, 12, 13, 14, 15, 16, 26, 36, 37, 589] rfl ?_
  refine sc_cond_f rfl ?_
  refine scS ?_
  refine scK [0, 4, 8, 9, 10, 11, 12, 13, 14, 15, 16, 26, 36] rfl ?_
  refine sc_seq ?_
  refine scR ?_
  refine sqA rfl rfl ?_
  refine sqZ ?_
  refine sc_block ?_
  generalize hne : (hd bs).phnum * (hd bs).phes = n at *
  refine sc_loop (ι := PL) (plS u bs big false fp sb db n shn nms) (fun z => z.N) (plM g gu u bs ms big fp sb cur db n) (PLF bs w0) (fun z => (hd bs).phnum - z.i) ⟨0, N2, N, k, List.replicate k (.pointer none), fun _ => (0, 0)⟩ ⟨⟨by simp, fun j hj => absurd hj (Nat.not_lt_zero _), by simp, by simp only [maxLen]; omega, by simp, hge0, fun j hj => absurd hj (Nat.not_lt_zero _)⟩, ⟨rfl, rfl, rfl, rfl, rfl, rfl, rfl, rfl, rfl, rfl, rfl, rfl, rfl, rfl, trivial⟩, rfl, fun _ h => h⟩ ?_
  rintro ⟨i, N, pb, cap, pad, f⟩ ⟨hi1, hi2, hi3, hi4, hi5, hi6, hi8⟩
  dsimp only at hi1 hi2 hi3 hi4 hi5 hi6 hi8
  have hi7 : cap ≤ 9223372036854775807 := hi4
  change Sc _ _ _ _ _ _ [(0, .iface 117 u), (4, .pointer (some ⟨sb, 0, none⟩)), (8, .pointer (some ⟨fp, 0, none⟩)), (9, .int .u8 (ordN big)), (10, .int .i64 ((hd bs).phoff : Int)), (11, .int .i64 ((hd bs).phes : Int)), (12, .int .i64 ((hd bs).phnum : Int)), (13, .int .i64 ((hd bs).shoff : Int)), (14, .int .i64 ((hd bs).shes : Int)), (15, .int .i64 shn), (16, .int .i64 nms), (26, .int .i64 ((wd false 40 64 : Nat) : Int)), (36, .slice (some ⟨db, 0, none⟩) n n), (38, .int .i64 (i : Int))] N ((db, .cells ((cut bs (hd bs).phoff n).map u8v).toArray 5 (0, 0)) :: (pb, .cells (ptrs f i ++ pad).toArray 89 (0, 0)) :: (fp, fileO bs big (hd bs).type (hd bs).machine (hd bs).entry (.slice none 0 0) (.slice (some ⟨pb, 0, none⟩) i cap)) :: (sb, srO (.iface 117 u) 0 cur (limOf 0 9223372036854775807) (.int .i64 (9223372036854775807 : Nat))) :: (1, g.o) :: (0, gu.o) :: (pmem bs u f i ++ ms))
  refine sc_known fun hnd2 hge2 hlt2 => ?_
  refine sc_seq ?_
  refine scR ?_
  iterate 2 refine sqM rfl rfl ?_
  refine sq_split (q_lss rfl rfl) rfl (fun h134_2 => ?_) (fun h134_2 => ?_)
  ·
   have hin : i < (hd bs).phnum := by omega
   have hes : 32 ≤ (hd bs).phes := by have := hchk.phe; rw [hwd] at this; exact this (by omega)
   obtain ⟨o, ho⟩ : ∃ o, o = i * (hd bs).phes := ⟨_, rfl⟩
   have hfit := row_fit hin ho
   rw [hne] at hfit
   have e_type : fld big bs ((hd bs).phoff + (o + 0)) 4 = (prow bs i).type := by simp [prow, prowAt, hwd, hbig, ho, Nat.add_assoc]
   have e_flags : fld big bs ((hd bs).phoff + (o + 24)) 4 = (prow bs i).flags := by simp [prow, prowAt, hwd, hbig, ho, Nat.add_assoc]
   have e_off : fld big bs ((hd bs).phoff + (o + 4)) 4 = (prow bs i).off := by simp [prow, prowAt, hwd, hbig, ho, Nat.add_assoc]
   have e_vaddr : fld big bs ((hd bs).phoff + (o + 8)) 4 = (prow bs i).vaddr := by simp [prow, prowAt, hwd, hbig, ho, Nat.add_assoc]
   have e_paddr : fld big bs ((hd bs).phoff + (o + 12)) 4 = (prow bs i).paddr := by simp [prow, prowAt, hwd, hbig, ho, Nat.add_assoc]
   have e_filesz : fld big bs ((hd bs).phoff + (o + 16)) 4 = (prow bs i).filesz := by simp [prow, prowAt, hwd, hbig, ho, Nat.add_assoc]
   have e_memsz : fld big bs ((hd bs).phoff + (o + 20)) 4 = (prow bs i).memsz := by simp [prow, prowAt, hwd, hbig, ho, Nat.add_assoc]
   have e_align : fld big bs ((hd bs).phoff + (o + 28)) 4 = (prow bs i).align := by simp [prow, prowAt, hwd, hbig, ho, Nat.add_assoc]
   have plt : (prow bs i).Lt := prowAt_lt _ _ _ _
   obtain ⟨q1, q2, q3, q4, q5, q6, q7, q8⟩ := plt
   refine sqK [0, 4, 8, 9, 10, 11, 12, 13, 14, 15, 16, 26, 36, 38, 593] rfl ?_
   refine sc_cond_t rfl ?_
   refine scS ?_
   refine scK [0, 4, 8, 9, 10, 11, 12, 13, 14, 15, 16, 26, 36, 38] rfl ?_
   refine sc_seq ?_
   refine sc_block ?_
   refine scR ?_
   refine sqM rfl rfl ?_
   refine sq_q (q_conv rfl Tryd.runUnderlying3 Tryd.runUnderlying12 (w_u64 (by omega) (by omega))) rfl ?_
   refine sqM rfl rfl ?_
   refine sq_q (q_conv rfl Tryd.runUnderlying3 Tryd.runUnderlying12 (w_u64 (by omega) (by omega))) rfl ?_
   refine sq_q (q_mul (a := (i : Int)) (b := ((hd bs).phes : Int)) (r := ((o : Nat) : Int)) rfl rfl (w_u64e (by rw [ho, Int.natCast_mul]) (by omega) (by omega))) rfl ?_
   refine sqA rfl rfl ?_
   refine sqKR [0, 4, 8, 9, 10, 11, 12, 13, 14, 15, 16, 26, 36, 38, 39] rfl ?_
   refine sq_m (m_alloc (l := [.int .i64 0, .int .u32 0, .int .u64 0, .int .u64 0, .int .u64 0, .int .u64 0, .int .u64 0, .int .u64 0, .nilIface, .pointer none]) Tryd.zeroValue95 rfl) rfl (fun _ _ => ?_)
   refine sqA rfl rfl ?_
   refine sqK [0, 4, 8, 9, 10, 11, 12, 13, 14, 15, 16, 26, 36, 38, 39, 40] rfl ?_
   refine sc_seq ?_
   refine scR ?_
   refine sqM rfl rfl ?_
   refine sq_q (q_nil rfl) rfl ?_
   refine sq_q (q_fieldj (j := 0) rfl Tryd.runUnderlying72 rfl Tryd.sizeOf66 rfl) rfl ?_
   refine sq_q (q_fieldj (j := 0) rfl Tryd.runUnderlying66 rfl Tryd.sizeOf57 rfl) rfl ?_
   refine sq_q (q_load1 rfl Tryd.isAgg57 (i := 3) rfl rfl) rfl ?_
   refine sqK [0, 4, 8, 9, 10, 11, 12, 13, 14, 15, 16, 26, 36, 38, 39, 40, 606] rfl ?_
   refine sc_block ?_
   refine scR ?_
   refine sq_q (q_decT (q_eql rfl rfl) (by omega)) rfl ?_
   refine sqA rfl rfl ?_
   refine sqK [0, 4, 8, 9, 10, 11, 12, 13, 14, 15, 16, 26, 36, 38, 39, 40, 606, 607] rfl ?_
   refine sc_cond_t rfl ?_
   refine sc_draw [0, 1, 2, 3, 4, 5, 6, 7, 8, 9, 10, 11, 12, 13, 14, 15, 16, 17, 18, 19, 20, 21, 22, 23, 24, 25, 26, 27, 28, 29, 30, 31, 32, 33, 34, 35, 36, 37, 38, 39, 40, 41, 42, 43, 44, 45, 46, 47, 48, 49, 50, 51, 52, 53, 54, 55, 56, 57, 58, 59] [59] [(db, .cells ((cut bs (hd bs).phoff n).map u8v).toArray 5 (0, 0))] mixed (by kernel_rfl) (by kernel_rfl) (fun _ h => by simp at h; simp [h]) ?_
   iterate 4 refine drM rfl rfl rfl ?_
   refine dr_q rfl rfl (q_add (a := (o : Int)) (b := (0 : Int)) (r := ((o + 0 : Nat) : Int)) rfl rfl (w_u64e (by omega) (by omega) (by omega))) ?_
   refine dr_q rfl rfl (q_slice_k (l := o + 0) (j := o + 0) rfl rfl Tryd.runUnderlying22 Tryd.sizeOf5 (by omega) (by omega) (by omega)) ?_
   refine dr_q rfl rfl (q_call (v := .int .u32 (((prow bs i).type : Nat) : Int)) (args2 rfl rfl) Tryd.call35 (fun w9 hw => tb32 e_type hcut (by omega) (by omega) (by omega) (hw.get (i := 0) rfl))) ?_
   refine dr_q rfl rfl (q_conv rfl Tryd.runUnderlying74 Tryd.runUnderlying90 (w_i64 (by omega) (by omega))) ?_
   iterate 3 refine drM rfl rfl rfl ?_
   refine dr_q rfl rfl (q_add (a := (o : Int)) (b := (24 : Int)) (r := ((o + 24 : Nat) : Int)) rfl rfl (w_u64e (by omega) (by omega) (by omega))) ?_
   refine dr_q rfl rfl (q_slice_k (l := o + 24) (j := o + 24) rfl rfl Tryd.runUnderlying22 Tryd.sizeOf5 (by omega) (by omega) (by omega)) ?_
   refine dr_q rfl rfl (q_call (v := .int .u32 (((prow bs i).flags : Nat) : Int)) (args2 rfl rfl) Tryd.call35 (fun w9 hw => tb32 e_flags hcut (by omega) (by omega) (by omega) (hw.get (i := 0) rfl))) ?_
   iterate 3 refine drM rfl rfl rfl ?_
   refine dr_q rfl rfl (q_add (a := (o : Int)) (b := (4 : Int)) (r := ((o + 4 : Nat) : Int)) rfl rfl (w_u64e (by omega) (by omega) (by omega))) ?_
   refine dr_q rfl rfl (q_slice_k (l := o + 4) (j := o + 4) rfl rfl Tryd.runUnderlying22 Tryd.sizeOf5 (by omega) (by omega) (by omega)) ?_
   refine dr_q rfl rfl (q_call (v := .int .u32 (((prow bs i).off : Nat) : Int)) (args2 rfl rfl) Tryd.call35 (fun w9 hw => tb32 e_off hcut (by omega) (by omega) (by omega) (hw.get (i := 0) rfl))) ?_
   refine dr_q rfl rfl (q_conv rfl Tryd.runUnderlying74 Tryd.runUnderlying23 (w_u64 (by omega) (by omega))) ?_
   iterate 3 refine drM rfl rfl rfl ?_
   refine dr_q rfl rfl (q_add (a := (o : Int)) (b := (8 : Int)) (r := ((o + 8 : Nat) : Int)) rfl rfl (w_u64e (by omega) (by omega) (by omega))) ?_
   refine dr_q rfl rfl (q_slice_k (l := o + 8) (j := o + 8) rfl rfl Tryd.runUnderlying22 Tryd.sizeOf5 (by omega) (by omega) (by omega)) ?_
   refine dr_q rfl rfl (q_call (v := .int .u32 (((prow bs i).vaddr : Nat) : Int)) (args2 rfl rfl) Tryd.call35 (fun w9 hw => tb32 e_vaddr hcut (by omega) (by omega) (by omega) (hw.get (i := 0) rfl))) ?_
   refine dr_q rfl rfl (q_conv rfl Tryd.runUnderlying74 Tryd.runUnderlying23 (w_u64 (by omega) (by omega))) ?_
   iterate 3 refine drM rfl rfl rfl ?_
   refine dr_q rfl rfl (q_add (a := (o : Int)) (b := (12 : Int)) (r := ((o + 12 : Nat) : Int)) rfl rfl (w_u64e (by omega) (by omega) (by omega))) ?_
   refine dr_q rfl rfl (q_slice_k (l := o + 12) (j := o + 12) rfl rfl Tryd.runUnderlying22 Tryd.sizeOf5 (by omega) (by omega) (by omega)) ?_
   refine dr_q rfl rfl (q_call (v := .int .u32 (((prow bs i).paddr : Nat) : Int)) (args2 rfl rfl) Tryd.call35 (fun w9 hw => tb32 e_paddr hcut (by omega) (by omega) (by omega) (hw.get (i := 0) rfl))) ?_
   refine dr_q rfl rfl (q_conv rfl Tryd.runUnderlying74 Tryd.runUnderlying23 (w_u64 (by omega) (by omega))) ?_
   iterate 3 refine drM rfl rfl rfl ?_
   refine dr_q rfl rfl (q_add (a := (o : Int)) (b := (16 : Int)) (r := ((o + 16 : Nat) : Int)) rfl rfl (w_u64e (by omega) (by omega) (by omega))) ?_
   refine dr_q rfl rfl (q_slice_k (l := o + 16) (j := o + 16) rfl rfl Tryd.runUnderlying22 Tryd.sizeOf5 (by omega) (by omega) (by omega)) ?_
   refine dr_q rfl rfl (q_call (v := .int .u32 (((prow bs i).filesz : Nat) : Int)) (args2 rfl rfl) Tryd.call35 (fun w9 hw => tb32 e_filesz hcut (by omega) (by omega) (by omega) (hw.get (i := 0) rfl))) ?_
   refine dr_q rfl rfl (q_conv rfl Tryd.runUnderlying74 Tryd.runUnderlying23 (w_u64 (by omega) (by omega))) ?_
   iterate 3 refine drM rfl rfl rfl ?_
   refine dr_q rfl rfl (q_add (a := (o : Int)) (b := (20 : Int)) (r := ((o + 20 : Nat) : Int)) rfl rfl (w_u64e (by omega) (by omega) (by omega))) ?_
   refine dr_q rfl rfl (q_slice_k (l := o + 20) (j := o + 20) rfl rfl Tryd.runUnderlying22 Tryd.sizeOf5 (by omega) (by omega) (by omega)) ?_
   refine dr_q rfl rfl (q_call (v := .int .u32 (((prow bs i).memsz : Nat) : Int)) (args2 rfl rfl) Tryd.call35 (fun w9 hw => tb32 e_memsz hcut (by omega) (by omega) (by omega) (hw.get (i := 0) rfl))) ?_
   refine dr_q rfl rfl (q_conv rfl Tryd.runUnderlying74 Tryd.runUnderlying23 (w_u64 (by omega) (by omega))) ?_
   iterate 3 refine drM rfl rfl rfl ?_
   refine dr_q rfl rfl (q_add (a := (o : Int)) (b := (28 : Int)) (r := ((o + 28 : Nat) : Int)) rfl rfl (w_u64e (by omega) (by omega) (by omega))) ?_
   refine dr_q rfl rfl (q_slice_k (l := o + 28) (j := o + 28) rfl rfl Tryd.runUnderlying22 Tryd.sizeOf5 (by omega) (by omega) (by omega)) ?_
   refine dr_q rfl rfl (q_call (v := .int .u32 (((prow bs i).align : Nat) : Int)) (args2 rfl rfl) Tryd.call35 (fun w9 hw => tb32 e_align hcut (by omega) (by omega) (by omega) (hw.get (i := 0) rfl))) ?_
   refine dr_q rfl rfl (q_conv rfl Tryd.runUnderlying74 Tryd.runUnderlying23 (w_u64 (by omega) (by omega))) ?_
   refine dr_q rfl rfl (q_build (vs := [(0, .int .i64 (((prow bs i).type : Nat) : Int)), (1, .int .u32 (((prow bs i).flags : Nat) : Int)), (2, .int .u64 (((prow bs i).off : Nat) : Int)), (3, .int .u64 (((prow bs i).vaddr : Nat) : Int)), (4, .int .u64 (((prow bs i).paddr : Nat) : Int)), (5, .int .u64 (((prow bs i).filesz : Nat) : Int)), (6, .int .u64 (((prow bs i).memsz : Nat) : Int)), (7, .int .u64 (((prow bs i).align : Nat) : Int))]) (cs := #[.int .i64 (((prow bs i).type : Nat) : Int), .int .u32 (((prow bs i).flags : Nat) : Int), .int .u64 (((prow bs i).off : Nat) : Int), .int .u64 (((prow bs i).vaddr : Nat) : Int), .int .u64 (((prow bs i).paddr : Nat) : Int), .int .u64 (((prow bs i).filesz : Nat) : Int), .int .u64 (((prow bs i).memsz : Nat) : Int), .int .u64 (((prow bs i).align : Nat) : Int)]) ⟨rfl, rfl, rfl, rfl, rfl, rfl, rfl, rfl, rfl, rfl, rfl, rfl, rfl, rfl, rfl, rfl, trivial⟩ (fun _ => by kernel_rfl)) ?_
   refine dr_q rfl rfl (q_nil rfl) ?_
   refine dr_q rfl rfl (q_fieldj (j := 0) rfl Tryd.runUnderlying95 rfl Tryd.sizeOf93 rfl) ?_
   refine dr_m0 rfl rfl (m_stores (i := 0) (vs := [.int .i64 (((prow bs i).type : Nat) : Int), .int .u32 (((prow bs i).flags : Nat) : Int), .int .u64 (((prow bs i).off : Nat) : Int), .int .u64 (((prow bs i).vaddr : Nat) : Int), .int .u64 (((prow bs i).paddr : Nat) : Int), .int .u64 (((prow bs i).filesz : Nat) : Int), .int .u64 (((prow bs i).memsz : Nat) : Int), .int .u64 (((prow bs i).align : Nat) : Int)]) (l' := [.int .i64 (((prow bs i).type : Nat) : Int), .int .u32 (((prow bs i).flags : Nat) : Int), .int .u64 (((prow bs i).off : Nat) : Int), .int .u64 (((prow bs i).vaddr : Nat) : Int), .int .u64 (((prow bs i).paddr : Nat) : Int), .int .u64 (((prow bs i).filesz : Nat) : Int), .int .u64 (((prow bs i).memsz : Nat) : Int), .int .u64 (((prow bs i).align : Nat) : Int), .nilIface, .pointer none]) rfl rfl Tryd.sizeOf93 rfl rfl rfl (by simp) rfl rfl (by intro h; omega)) (fun _ _ p hp => by simp at hp; simp [hp]) (fun _ _ => ?_)
   refine dr_nil ?_
   refine se_block ?_
   refine se_seq ?_
   refine scK [0, 4, 8, 9, 10, 11, 12, 13, 14, 15, 16, 26, 36, 38, 39, 40] rfl ?_
   refine sc_seq ?_
   refine scR ?_
   refine sqM rfl rfl ?_
   refine sq_q (q_nil rfl) rfl ?_
   refine sq_q (q_fieldj (j := 0) rfl Tryd.runUnderlying95 rfl Tryd.sizeOf93 rfl) rfl ?_
   refine sq_q (q_fieldj (j := 2) rfl Tryd.runUnderlying93 rfl Tryd.sizeOf23 rfl) rfl ?_
   refine sq_q (q_load1 rfl Tryd.isAgg23 (i := 0) rfl rfl) rfl ?_
   refine sq_q (q_conv rfl Tryd.runUnderlying23 Tryd.runUnderlying2 rfl) rfl ?_
   refine sq_split (q_lss rfl rfl) rfl (fun h143_6 => ?_) (fun h143_6 => ?_)
   ·
    have hbad : ¬ Good bs := fun hg => by have h9 := (hg.ps i hin).1; rw [wneg q3] at h143_6; omega
    refine sqK [0, 4, 8, 9, 10, 11, 12, 13, 14, 15, 16, 26, 36, 38, 39, 40, 729] rfl ?_
    refine sc_cond_t rfl ?_
    refine sc_seq ?_
    refine sc_draw [0, 1, 2, 3, 4, 5, 6, 7, 8, 9, 10, 13, 11, 12, 14] [11] _ mixed (by kernel_rfl) (by kernel_rfl) (List.Subset.refl _) ?_
    iterate 2 refine drM rfl rfl rfl ?_
    refine dr_q rfl rfl (q_conv rfl Tryd.runUnderlying12 Tryd.runUnderlying2 rfl) ?_
    refine dr_q rfl rfl (q_add rfl rfl rfl) ?_
    refine drM rfl rfl rfl ?_
    refine dr_q rfl rfl (q_nil rfl) ?_
    refine dr_q rfl rfl (q_fieldj (j := 0) rfl Tryd.runUnderlying95 rfl Tryd.sizeOf93 rfl) ?_
    refine dr_q rfl rfl (q_fieldj (j := 2) rfl Tryd.runUnderlying93 rfl Tryd.sizeOf23 rfl) ?_
    refine dr_q rfl rfl (q_load1 rfl Tryd.isAgg23 (i := 0) rfl rfl) ?_
    refine dr_q rfl rfl (q_iface rfl Tryd.runUnderlying23 rfl) ?_
    refine dr_q rfl rfl (q_build (vs := [(0, _), (1, _), (2, _)]) ⟨rfl, rfl, rfl, rfl, rfl, rfl, trivial⟩ b139) ?_
    refine drA rfl rfl rfl ?_
    refine dr_m rfl rfl (m_box rfl rfl) (fun _ _ p hp => List.mem_cons_of_mem _ hp) (fun _ _ => ?_)
    refine dr_q rfl rfl (q_iface rfl Tryd.runUnderlying137 rfl) ?_
    refine drA rfl rfl rfl ?_
    refine dr_nil ?_
    refine se_seq ?_
    refine scK [2, 3] rfl ?_
    refine sc_ret ?_
    refine se_then_ret ?_
    refine se_block_ret ?_
    iterate 2 refine se_then_ret ?_
    refine se_block_ret ?_
    refine se_then_ret ?_
    exact se_end (res2 Tryd.results22 rfl rfl) (fun w' hw => .inl ⟨hbad, ⟨_, _, _, rfl⟩, hw.eff⟩)
   have hpo : (prow bs i).off < 9223372036854775808 := by rw [wneg q3] at h143_6; omega
   refine sqK [0, 4, 8, 9, 10, 11, 12, 13, 14, 15, 16, 26, 36, 38, 39, 40, 729] rfl ?_
   refine sc_cond_f rfl ?_
   refine scS ?_
   refine scK [0, 4, 8, 9, 10, 11, 12, 13, 14, 15, 16, 26, 36, 38, 39, 40] rfl ?_
   refine sc_seq ?_
   refine scR ?_
   refine sqM rfl rfl ?_
   refine sq_q (q_nil rfl) rfl ?_
   refine sq_q (q_fieldj (j := 0) rfl Tryd.runUnderlying95 rfl Tryd.sizeOf93 rfl) rfl ?_
   refine sq_q (q_fieldj (j := 5) rfl Tryd.runUnderlying93 rfl Tryd.sizeOf23 rfl) rfl ?_
   refine sq_q (q_load1 rfl Tryd.isAgg23 (i := 0) rfl rfl) rfl ?_
   refine sq_q (q_conv rfl Tryd.runUnderlying23 Tryd.runUnderlying2 rfl) rfl ?_
   refine sq_split (q_lss rfl rfl) rfl (fun h145_6 => ?_) (fun h145_6 => ?_)
   ·
    have hbad : ¬ Good bs := fun hg => by have h9 := (hg.ps i hin).2; rw [wneg q6] at h145_6; omega
    refine sqK [0, 4, 8, 9, 10, 11, 12, 13, 14, 15, 16, 26, 36, 38, 39, 40, 749] rfl ?_
    refine sc_cond_t rfl ?_
    refine sc_seq ?_
    refine sc_draw [0, 1, 2, 3, 4, 5, 6, 7, 8, 9, 10, 13, 11, 12, 14] [11] _ mixed (by kernel_rfl) (by kernel_rfl) (List.Subset.refl _) ?_
    iterate 2 refine drM rfl rfl rfl ?_
    refine dr_q rfl rfl (q_conv rfl Tryd.runUnderlying12 Tryd.runUnderlying2 rfl) ?_
    refine dr_q rfl rfl (q_add rfl rfl rfl) ?_
    refine drM rfl rfl rfl ?_
    refine dr_q rfl rfl (q_nil rfl) ?_
    refine dr_q rfl rfl (q_fieldj (j := 0) rfl Tryd.runUnderlying95 rfl Tryd.sizeOf93 rfl) ?_
    refine dr_q rfl rfl (q_fieldj (j := 5) rfl Tryd.runUnderlying93 rfl Tryd.sizeOf23 rfl) ?_
    refine dr_q rfl rfl (q_load1 rfl Tryd.isAgg23 (i := 0) rfl rfl) ?_
    refine dr_q rfl rfl (q_iface rfl Tryd.runUnderlying23 rfl) ?_
    refine dr_q rfl rfl (q_build (vs := [(0, _), (1, _), (2, _)]) ⟨rfl, rfl, rfl, rfl, rfl, rfl, trivial⟩ b139) ?_
    refine drA rfl rfl rfl ?_
    refine dr_m rfl rfl (m_box rfl rfl) (fun _ _ p hp => List.mem_cons_of_mem _ hp) (fun _ _ => ?_)
    refine dr_q rfl rfl (q_iface rfl Tryd.runUnderlying137 rfl) ?_
    refine drA rfl rfl rfl ?_
    refine dr_nil ?_
    refine se_seq ?_
    refine scK [2, 3] rfl ?_
    refine sc_ret ?_
    refine se_then_ret ?_
    refine se_block_ret ?_
    iterate 2 refine se_then_ret ?_
    refine se_block_ret ?_
    refine se_then_ret ?_
    exact se_end (res2 Tryd.results22 rfl rfl) (fun w' hw => .inl ⟨hbad, ⟨_, _, _, rfl⟩, hw.eff⟩)
   have hpf : (prow bs i).filesz < 9223372036854775808 := by rw [wneg q6] at h145_6; omega
   refine sqK [0, 4, 8, 9, 10, 11, 12, 13, 14, 15, 16, 26, 36, 38, 39, 40, 749] rfl ?_
   refine sc_cond_f rfl ?_
   refine scS ?_
   refine scK [0, 4, 8, 9, 10, 11, 12, 13, 14, 15, 16, 26, 36, 38, 40] rfl ?_
   refine sc_seq ?_
   refine sc_draw [0, 1, 2, 3, 4, 5, 6, 7, 8, 9, 10, 11, 12, 13, 14, 15, 16, 17] [14, 17] [(N, .cells [.int .i64 (((prow bs i).type : Nat) : Int), .int .u32 (((prow bs i).flags : Nat) : Int), .int .u64 (((prow bs i).off : Nat) : Int), .int .u64 (((prow bs i).vaddr : Nat) : Int), .int .u64 (((prow bs i).paddr : Nat) : Int), .int .u64 (((prow bs i).filesz : Nat) : Int), .int .u64 (((prow bs i).memsz : Nat) : Int), .int .u64 (((prow bs i).align : Nat) : Int), .nilIface, .pointer none].toArray 95 (0, 0))] mixed (by kernel_rfl) (by kernel_rfl) (fun _ h => by simp at h; simp [h]) ?_
   iterate 3 refine drM rfl rfl rfl ?_
   refine dr_q rfl rfl (q_nil rfl) ?_
   refine dr_q rfl rfl (q_fieldj (j := 0) rfl Tryd.runUnderlying95 rfl Tryd.sizeOf93 rfl) ?_
   refine dr_q rfl rfl (q_fieldj (j := 2) rfl Tryd.runUnderlying93 rfl Tryd.sizeOf23 rfl) ?_
   refine dr_q rfl rfl (q_load1 rfl Tryd.isAgg23 (i := 0) rfl rfl) ?_
   refine dr_q rfl rfl (q_conv rfl Tryd.runUnderlying23 Tryd.runUnderlying2 (w_i64 (by omega) (by omega))) ?_
   refine drM rfl rfl rfl ?_
   refine dr_q rfl rfl (q_nil rfl) ?_
   refine dr_q rfl rfl (q_fieldj (j := 0) rfl Tryd.runUnderlying95 rfl Tryd.sizeOf93 rfl) ?_
   refine dr_q rfl rfl (q_fieldj (j := 5) rfl Tryd.runUnderlying93 rfl Tryd.sizeOf23 rfl) ?_
   refine dr_q rfl rfl (q_load1 rfl Tryd.isAgg23 (i := 0) rfl rfl) ?_
   refine dr_q rfl rfl (q_conv rfl Tryd.runUnderlying23 Tryd.runUnderlying2 (w_i64 (by omega) (by omega))) ?_
   refine dr_m rfl rfl (new_inv (off := (prow bs i).off) (n := (prow bs i).filesz) (by omega) (by omega) rfl rfl rfl) (fun _ _ p hp => by simp at hp; simp [hp]) (fun _ _ => ?_)
   refine dr_q rfl rfl (q_nil rfl) ?_
   refine dr_q rfl rfl (q_fieldj (j := 9) rfl Tryd.runUnderlying95 rfl Tryd.sizeOf81 rfl) ?_
   refine dr_m0l rfl rfl (m_store rfl rfl Tryd.sizeOf81 rfl (i := 1) rfl rfl rfl (by intro h; omega)) (by kernel_rfl) (fun _ _ => ?_)
   refine dr_nil ?_
   refine se_seq ?_
   refine scK [0, 4, 8, 9, 10, 11, 12, 13, 14, 15, 16, 26, 36, 38, 40] rfl ?_
   refine scR ?_
   iterate 2 refine sqM rfl rfl ?_
   refine sq_q (q_nil rfl) rfl ?_
   refine sq_q (q_fieldj (j := 9) rfl Tryd.runUnderlying95 rfl Tryd.sizeOf81 rfl) rfl ?_
   refine sq_q (q_load1 rfl Tryd.isAgg81 (i := 1) rfl rfl) rfl ?_
   refine sq_q (q_iface rfl Tryd.runUnderlying81 rfl) rfl ?_
   refine sq_q (q_nil rfl) rfl ?_
   refine sq_q (q_fieldj (j := 8) rfl Tryd.runUnderlying95 rfl Tryd.sizeOf80 rfl) rfl ?_
   refine sq_m0 ((m_store rfl rfl Tryd.sizeOf80 rfl (i := 1) rfl rfl rfl (by intro h; omega))) (fun _ _ => ?_)
   refine sqK [0, 4, 8, 9, 10, 11, 12, 13, 14, 15, 16, 26, 36, 38, 40] rfl ?_
   refine sc_region ?_
   iterate 2 refine sqM rfl rfl ?_
   refine sq_q (q_nil rfl) rfl ?_
   refine sq_q (q_fieldj (j := 10) rfl Tryd.runUnderlying72 rfl Tryd.sizeOf68 rfl) rfl ?_
   refine sq_q (q_load1 rfl Tryd.isAgg68 (i := 4) rfl rfl) rfl ?_
   refine sqM rfl rfl ?_
   refine sq_m (m_lit (vs := [(0, _)]) ⟨rfl, rfl, trivial⟩ (e := 89) (l := [.pointer (some ⟨N, 0, none⟩)]) (fun w => by kernel_rfl)) rfl (fun _ _ => ?_)
   refine sq_m (m_app (j0 := 4) (j := 0) (i := Tryd.t89) (z := .pointer none) (n := i) (cap := cap) (xs := ptrs f i) (pad := pad) (news := [.pointer (some ⟨N, 0, none⟩)]) rfl rfl rfl rfl rfl Tryd.underlying68 (by kernel_rfl) (by kernel_rfl) (by kernel_rfl) (by rw [ptrs_length, t89_size, Nat.mul_one]) (by rw [hi5, t89_size, Nat.mul_one]) hi3 hi4 (by rw [t89_size]; rfl) (by rw [t89_size]; simp) rfl (by omega) (by rw [t89_bytes]; omega) (by intro h; omega)) rfl (fun y hy => ?_)
   obtain ⟨hy1, hy2, hy3, hy4, hy5, hy6⟩ := hy
   refine sq_q (q_nil rfl) rfl ?_
   refine sq_q (q_fieldj (j := 10) rfl Tryd.runUnderlying72 rfl Tryd.sizeOf68 rfl) rfl ?_
   refine sq_m0 (m_store rfl rfl Tryd.sizeOf68 rfl (i := 5) rfl rfl rfl (by intro h; omega)) (fun _ _ => ?_)
   refine sq_nil ?_
   refine se_block ?_
   refine se_seq ?_
   refine scK [0, 4, 8, 9, 10, 11, 12, 13, 14, 15, 16, 26, 36, 38] rfl ?_
   refine sc_region ?_
   refine sqM rfl rfl ?_
   refine sq_q (q_add rfl rfl (w_i64 (by omega) (by omega))) rfl ?_
   refine sqA rfl rfl ?_
   refine sq_nil ?_
   refine se_loop ⟨i + 1, y.N, y.b, y.cap, y.pad, fun j => if j = i then (N, N + 1) else f j⟩ (by dsimp only; omega) ⟨by dsimp only; omega, fun j hj => (by
    have hj2 : j < i ∨ j = i := by dsimp only at hj; omega
    rcases hj2 with hj2 | rfl
    ·
     exact hi2 j hj2
    ·
     exact ⟨hpo, hpf⟩), hy3, hy4, by rw [hy5, t89_size, Nat.mul_one], by rcases hy1 with hy1 | hy1 <;> dsimp only <;> omega, fun j hj => (by
    have hj2 : j < i ∨ j = i := by dsimp only at hj; omega
    dsimp only
    rcases hj2 with hj2 | rfl
    ·
     rw [if_neg (by omega)]; exact hi8 j hj2
    ·
     rw [if_pos rfl]; exact ⟨hge2, by dsimp only; omega⟩)⟩ ⟨rfl, rfl, rfl, rfl, rfl, rfl, rfl, rfl, rfl, rfl, rfl, rfl, rfl, rfl, trivial⟩ (fun w h => ?_)
   unfold plM
   refine h.cast_mm ?_
   rw [pmem_next, ptrs_next]
   simp only [List.cons_append, List.append_assoc, List.nil_append]
   exact perm_round
  refine sqK [0, 4, 8, 9, 10, 11, 12, 13, 14, 15, 16, 26, 36, 38, 593] rfl ?_
  refine sc_cond_f rfl ?_
  refine sc_exit ?_
  iterate 2 refine se_then_exit ?_
  refine se_block_hit ?_
  refine se_seq ?_
  iterate 2 refine scK [0, 4, 8, 9, 13, 14, 15, 16, 26] rfl ?_
  have hdone : i = (hd bs).phnum := by omega
  subst hdone
  refine sc_mem (fun _ h => h.sublist (.cons _ (List.Sublist.refl _))) ?_
  exact hF _ _ _ _ _ _ _ _ _ _ _ _ ⟨hchk, hne ▸ hcut, hi2⟩ hbig hwd hfp hsb hshn1 hshn2 hnms1 hnms2 hmode2 hi6 hi8
 have hbad := mode_cut hmode hcut
 refine sqK [0, 4, 8, 9, 10, 11, 12, 13, 14, 15, 16, 26, 36, 37] rfl ?_
 refine sc_seq ?_
 refine scR ?_
 refine sqM rfl rfl ?_
 refine sq_q (q_iface_neq_nil rfl rfl Tryd.runUnderlying86) rfl ?_
 refine sqK [0, 4, 8, 9, 10, 11, 12, 13, 14, 15, 16, 26, 36, 37, 589] rfl ?_
 refine sc_cond_t rfl ?_
 refine scR ?_
 refine sqM rfl rfl ?_
 iterate 2 refine sqA rfl rfl ?_
 refine sqK [2, 3] rfl ?_
 refine sc_ret ?_
 refine se_then_ret ?_
 exact se_end (res2 Tryd.results22 rfl rfl) (fun w' hw => .inl ⟨hbad, ⟨_, _, _, rfl⟩, hw.eff⟩)

theorem nf_e2_true {g gu : Gx} {bs : List UInt8} {u : Value} {ms : MM} {w0 : World} (cx : Cx g gu bs u ms w0) (hF : StF g gu bs u ms w0) : ∀ (big : Bool) (fp sb cur N phn : Nat) (shn nms : Int) (k : Nat), ChkOk bs → isBig bs = big → isWide bs = true → w0.heap.size ≤ fp → w0.heap.size ≤ sb → phn < 4294967296 → -9223372036854775808 ≤ shn → shn ≤ 9223372036854775807 → -9223372036854775808 ≤ nms → nms ≤ 9223372036854775807 → Mode bs phn shn nms → k ≤ 1310720 →
 Sc Tryd.prog r32 (bodyPost Tryd.prog Tryd.f22 (NF bs u ((1, g.o) :: (0, gu.o) :: ms) w0)) 1287 w0 E0 [(0, .iface 117 u), (4, .pointer (some ⟨sb, 0, none⟩)), (8, .pointer (some ⟨fp, 0, none⟩)), (9, .int .u8 (ordN big)), (10, .int .i64 ((hd bs).phoff : Int)), (11, .int .i64 ((hd bs).phes : Int)), (12, .int .i64 (phn : Int)), (13, .int .i64 ((hd bs).shoff : Int)), (14, .int .i64 ((hd bs).shes : Int)), (15, .int .i64 shn), (16, .int .i64 nms), (26, .int .i64 ((wd true 40 64 : Nat) : Int)), (35, .int .i64 (k : Int))] N
  ((fp, fileO bs big (hd bs).type (hd bs).machine (hd bs).entry (.slice none 0 0) (.slice none 0 0)) :: (sb, srO (.iface 117 u) 0 cur (limOf 0 9223372036854775807) (.int .i64 (9223372036854775807 : Nat))) :: (1, g.o) :: (0, gu.o) :: ms) := by
 intro big fp sb cur N phn shn nms k hchk hbig hwd hfp hsb hphn hshn1 hshn2 hnms1 hnms2 hmode hk
 have c4 : bv bs 4 = 2 := by have := hchk.rd.id.cls; simp [isWide] at hwd; omega
 have blen := cx.len
 have hph := hchk.ph
 obtain ⟨hl1, hl2, hl3, hl4, hl5, hl6, hl7, hl8, hl9, hl10, hl11⟩ := hd_lt bs
 have hms := mul_small hphn hl7
 refine sc_known fun hnd0 hge0 hlt0 => ?_
 refine scR ?_
 iterate 2 refine sqM rfl rfl ?_
 refine sq_m (m_make (kl := .i64) (kc := .i64) (len := 0) (cap := k) (i := Tryd.t89) (z := .pointer none) rfl rfl Tryd.underlying68 (by kernel_rfl) (by kernel_rfl) (by kernel_rfl) rfl (Nat.zero_le _) (mk89 (by omega)) (by omega)) rfl (fun _ _ => ?_)
 refine sq_q (q_nil rfl) rfl ?_
 refine sq_q (q_fieldj (j := 10) rfl Tryd.runUnderlying72 rfl Tryd.sizeOf68 rfl) rfl ?_
 refine sq_m0 ((m_store rfl rfl Tryd.sizeOf68 rfl (i := 1) rfl rfl rfl (by intro h; omega))) (fun _ _ => ?_)
 refine sqKR [0, 4, 8, 9, 10, 11, 12, 13, 14, 15, 16, 26] rfl ?_
 refine sqM rfl rfl ?_
 refine sq_q (q_iface rfl Tryd.runUnderlying81 rfl) rfl ?_
 refine sqM rfl rfl ?_
 refine sq_q (q_conv rfl Tryd.runUnderlying3 Tryd.runUnderlying23 (w_u64 (by omega) (by omega))) rfl ?_
 refine sqM rfl rfl ?_
 refine sq_q (q_conv rfl Tryd.runUnderlying3 Tryd.runUnderlying23 (w_u64 (by omega) (by omega))) rfl ?_
 refine sq_q (q_mul (a := (phn : Int)) (b := ((hd bs).phes : Int)) (r := ((phn * (hd bs).phes : Nat) : Int)) rfl rfl (w_u64e (by rw [Int.natCast_mul]) (by omega) (by omega))) rfl ?_
 refine sqM rfl rfl ?_
 refine sq_known fun hnd1 hge1 hlt1 => ?_
 refine sq_m (rda_inv (gu := gu) (ms := (sb, srO (.iface 117 u) 0 cur (limOf 0 9223372036854775807) (.int .i64 (9223372036854775807 : Nat))) :: ms) (rc_all cx.rc cx.len (nd_sr hnd1)) (by omega) cx.len (by omega) (sub_sr _ _) (by simp) (by simp) rfl rfl rfl) rfl (fun q hq => ?_)
 refine sqM rfl rfl ?_
 iterate 2 refine sq_q (q_extract rfl rfl) rfl ?_
 iterate 2 refine sqA rfl rfl ?_
 obtain ⟨v0, v1, nn, N2⟩ := q
 dsimp only at hq
 rcases hq with ⟨hcut, db, hdb, rfl, rfl, rfl, hN2⟩ | ⟨hcut, rfl, ⟨t2, u2, rfl⟩, rfl, hN2⟩
 ·
  obtain ⟨rfl, hmode2⟩ := mode_next hmode hcut cx.len
  refine sqK [0, 4, 8, 9, 10, 11, 12, 13, 14, 15, 16, 26, 36, 37] rfl ?_
  refine sc_seq ?_
  refine scR ?_
  refine sqM rfl rfl ?_
  refine sq_q (q_nil_neq_nil rfl Tryd.runUnderlying86) rfl ?_
  refine sqK [0, 4, 8, 9, 10, 11, 12, 13, 14, 15, 16, 26, 36, 37, 589] rfl ?_
  refine sc_cond_f rfl ?_
  refine scS ?_
  refine scK [0, 4, 8, 9, 10, 11, 12, 13, 14, 15, 16, 26, 36] rfl ?_
  refine sc_seq ?_
  refine scR ?_
  refine sqA rfl rfl ?_
  refine sqZ ?_
  refine sc_block ?_
  generalize hne : (hd bs).phnum * (hd bs).phes = n at *
  refine sc_loop (ι := PL) (plS u bs big true fp sb db n shn nms) (fun z => z.N) (plM g gu u bs ms big fp sb cur db n) (PLF bs w0) (fun z => (hd bs).phnum - z.i) ⟨0, N2, N, k, List.replicate k (.pointer none), fun _ => (0, 0)⟩ ⟨⟨by simp, fun j hj => absurd hj (Nat.not_lt_zero _), by simp, by simp only [maxLen]; omega, by simp, hge0, fun j hj => absurd hj (Nat.not_lt_zero _)⟩, ⟨rfl, rfl, rfl, rfl, rfl, rfl, rfl, rfl, rfl, rfl, rfl, rfl, rfl, rfl, trivial⟩, rfl, fun _ h => h⟩ ?_
  rintro ⟨i, N, pb, cap, pad, f⟩ ⟨hi1, hi2, hi3, hi4, hi5, hi6, hi8⟩
  dsimp only at hi1 hi2 hi3 hi4 hi5 hi6 hi8
  have hi7 : cap ≤ 9223372036854775807 := hi4
  change Sc _ _ _ _ _ _ [(0, .iface 117 u), (4, .pointer (some ⟨sb, 0, none⟩)), (8, .pointer (some ⟨fp, 0, none⟩)), (9, .int .u8 (ordN big)), (10, .int .i64 ((hd bs).phoff : Int)), (11, .int .i64 ((hd bs).phes : Int)), (12, .int .i64 ((hd bs).phnum : Int)), (13, .int .i64 ((hd bs).shoff : Int)), (14, .int .i64 ((hd bs).shes : Int)), (15, .int .i64 shn), (16, .int .i64 nms), (26, .int .i64 ((wd true 40 64 : Nat) : Int)), (36, .slice (some ⟨db, 0, none⟩) n n), (38, .int .i64 (i : Int))] N ((db, .cells ((cut bs (hd bs).phoff n).map u8v).toArray 5 (0, 0)) :: (pb, .cells (ptrs f i ++ pad).toArray 89 (0, 0)) :: (fp, fileO bs big (hd bs).type (hd bs).machine (hd bs).entry (.slice none 0 0) (.slice (some ⟨pb, 0, none⟩) i cap)) :: (sb, srO (.iface 117 u) 0 cur (limOf 0 9223372036854775807) (.int .i64 (9223372036854775807 : Nat))) :: (1, g.o) :: (0, gu.o) :: (pmem bs u f i ++ ms))
  refine sc_known fun hnd2 hge2 hlt2 => ?_
  refine sc_seq ?_
  refine scR ?_
  iterate 2 refine sqM rfl rfl ?_
  refine sq_split (q_lss rfl rfl) rfl (fun h134_2 => ?_) (fun h134_2 => ?_)
  ·
   have hin : i < (hd bs).phnum := by omega
   have hes : 56 ≤ (hd bs).phes := by have := hchk.phe; rw [hwd] at this; exact this (by omega)
   obtain ⟨o, ho⟩ : ∃ o, o = i * (hd bs).phes := ⟨_, rfl⟩
   have hfit := row_fit hin ho
   rw [hne] at hfit
   have e_type : fld big bs ((hd bs).phoff + (o + 0)) 4 = (prow bs i).type := by simp [prow, prowAt, hwd, hbig, ho, Nat.add_assoc]
   have e_flags : fld big bs ((hd bs).phoff + (o + 4)) 4 = (prow bs i).flags := by simp [prow, prowAt, hwd, hbig, ho, Nat.add_assoc]
   have e_off : fld big bs ((hd bs).phoff + (o + 8)) 8 = (prow bs i).off := by simp [prow, prowAt, hwd, hbig, ho, Nat.add_assoc]
   have e_vaddr : fld big bs ((hd bs).phoff + (o + 16)) 8 = (prow bs i).vaddr := by simp [prow, prowAt, hwd, hbig, ho, Nat.add_assoc]
   have e_paddr : fld big bs ((hd bs).phoff + (o + 24)) 8 = (prow bs i).paddr := by simp [prow, prowAt, hwd, hbig, ho, Nat.add_assoc]
   have e_filesz : fld big bs ((hd bs).phoff + (o + 32)) 8 = (prow bs i).filesz := by simp [prow, prowAt, hwd, hbig, ho, Nat.add_assoc]
   have e_memsz : fld big bs ((hd bs).phoff + (o + 40)) 8 = (prow bs i).memsz := by simp [prow, prowAt, hwd, hbig, ho, Nat.add_assoc]
   have e_align : fld big bs ((hd bs).phoff + (o + 48)) 8 = (prow bs i).align := by simp [prow, prowAt, hwd, hbig, ho, Nat.add_assoc]
   have plt : (prow bs i).Lt := prowAt_lt _ _ _ _
   obtain ⟨q1, q2, q3, q4, q5, q6, q7, q8⟩ := plt
   refine sqK [0, 4, 8, 9, 10, 11, 12, 13, 14, 15, 16, 26, 36, 38, 593] rfl ?_
   refine sc_cond_t rfl ?_
   refine scS ?_
   refine scK [0, 4, 8, 9, 10, 11, 12, 13, 14, 15, 16, 26, 36, 38] rfl ?_
   refine sc_seq ?_
   refine sc_block ?_
   refine scR ?_
   refine sqM rfl rfl ?_
   refine sq_q (q_conv rfl Tryd.runUnderlying3 Tryd.runUnderlying12 (w_u64 (by omega) (by omega))) rfl ?_
   refine sqM rfl rfl ?_
   refine sq_q (q_conv rfl Tryd.runUnderlying3 Tryd.runUnderlying12 (w_u64 (by omega) (by omega))) rfl ?_
   refine sq_q (q_mul (a := (i : Int)) (b := ((hd bs).phes : Int)) (r := ((o : Nat) : Int)) rfl rfl (w_u64e (by rw [ho, Int.natCast_mul]) (by omega) (by omega))) rfl ?_
   refine sqA rfl rfl ?_
   refine sqKR [0, 4, 8, 9, 10, 11, 12, 13, 14, 15, 16, 26, 36, 38, 39] rfl ?_
   refine sq_m (m_alloc (l := [.int .i64 0, .int .u32 0, .int .u64 0, .int .u64 0, .int .u64 0, .int .u64 0, .int .u64 0, .int .u64 0, .nilIface, .pointer none]) Tryd.zeroValue95 rfl) rfl (fun _ _ => ?_)
   refine sqA rfl rfl ?_
   refine sqK [0, 4, 8, 9, 10, 11, 12, 13, 14, 15, 16, 26, 36, 38, 39, 40] rfl ?_
   refine sc_seq ?_
   refine scR ?_
   refine sqM rfl rfl ?_
   refine sq_q (q_nil rfl) rfl ?_
   refine sq_q (q_fieldj (j := 0) rfl Tryd.runUnderlying72 rfl Tryd.sizeOf66 rfl) rfl ?_
   refine sq_q (q_fieldj (j := 0) rfl Tryd.runUnderlying66 rfl Tryd.sizeOf57 rfl) rfl ?_
   refine sq_q (q_load1 rfl Tryd.isAgg57 (i := 3) rfl rfl) rfl ?_
   refine sqK [0, 4, 8, 9, 10, 11, 12, 13, 14, 15, 16, 26, 36, 38, 39, 40, 606] rfl ?_
   refine sc_block ?_
   refine scR ?_
   refine sq_q (q_decF (q_eql rfl rfl) (by omega)) rfl ?_
   refine sqA rfl rfl ?_
   refine sqK [0, 4, 8, 9, 10, 11, 12, 13, 14, 15, 16, 26, 36, 38, 39, 40, 606, 607] rfl ?_
   refine sc_cond_f rfl ?_
   refine scR ?_
   refine sq_q (q_decT (q_eql rfl rfl) (by omega)) rfl ?_
   refine sqA rfl rfl ?_
   refine sqK [0, 4, 8, 9, 10, 11, 12, 13, 14, 15, 16, 26, 36, 38, 39, 40, 668] rfl ?_
   refine sc_cond_t rfl ?_
   refine sc_draw [0, 1, 2, 3, 4, 5, 6, 7, 8, 9, 10, 11, 12, 13, 14, 15, 16, 17, 18, 19, 20, 21, 22, 23, 24, 25, 26, 27, 28, 29, 30, 31, 32, 33, 34, 35, 36, 37, 38, 39, 40, 41, 42, 43, 44, 45, 46, 47, 48, 49, 50, 51, 52, 53] [53] [(db, .cells ((cut bs (hd bs).phoff n).map u8v).toArray 5 (0, 0))] mixed (by kernel_rfl) (by kernel_rfl) (fun _ h => by simp at h; simp [h]) ?_
   iterate 4 refine drM rfl rfl rfl ?_
   refine dr_q rfl rfl (q_add (a := (o : Int)) (b := (0 : Int)) (r := ((o + 0 : Nat) : Int)) rfl rfl (w_u64e (by omega) (by omega) (by omega))) ?_
   refine dr_q rfl rfl (q_slice_k (l := o + 0) (j := o + 0) rfl rfl Tryd.runUnderlying22 Tryd.sizeOf5 (by omega) (by omega) (by omega)) ?_
   refine dr_q rfl rfl (q_call (v := .int .u32 (((prow bs i).type : Nat) : Int)) (args2 rfl rfl) Tryd.call35 (fun w9 hw => tb32 e_type hcut (by omega) (by omega) (by omega) (hw.get (i := 0) rfl))) ?_
   refine dr_q rfl rfl (q_conv rfl Tryd.runUnderlying74 Tryd.runUnderlying90 (w_i64 (by omega) (by omega))) ?_
   iterate 3 refine drM rfl rfl rfl ?_
   refine dr_q rfl rfl (q_add (a := (o : Int)) (b := (4 : Int)) (r := ((o + 4 : Nat) : Int)) rfl rfl (w_u64e (by omega) (by omega) (by omega))) ?_
   refine dr_q rfl rfl (q_slice_k (l := o + 4) (j := o + 4) rfl rfl Tryd.runUnderlying22 Tryd.sizeOf5 (by omega) (by omega) (by omega)) ?_
   refine dr_q rfl rfl (q_call (v := .int .u32 (((prow bs i).flags : Nat) : Int)) (args2 rfl rfl) Tryd.call35 (fun w9 hw => tb32 e_flags hcut (by omega) (by omega) (by omega) (hw.get (i := 0) rfl))) ?_
   iterate 3 refine drM rfl rfl rfl ?_
   refine dr_q rfl rfl (q_add (a := (o : Int)) (b := (8 : Int)) (r := ((o + 8 : Nat) : Int)) rfl rfl (w_u64e (by omega) (by omega) (by omega))) ?_
   refine dr_q rfl rfl (q_slice_k (l := o + 8) (j := o + 8) rfl rfl Tryd.runUnderlying22 Tryd.sizeOf5 (by omega) (by omega) (by omega)) ?_
   refine dr_q rfl rfl (q_call (v := .int .u64 (((prow bs i).off : Nat) : Int)) (args2 rfl rfl) Tryd.call36 (fun w9 hw => tb64 e_off hcut (by omega) (by omega) (by omega) (hw.get (i := 0) rfl))) ?_
   iterate 3 refine drM rfl rfl rfl ?_
   refine dr_q rfl rfl (q_add (a := (o : Int)) (b := (16 : Int)) (r := ((o + 16 : Nat) : Int)) rfl rfl (w_u64e (by omega) (by omega) (by omega))) ?_
   refine dr_q rfl rfl (q_slice_k (l := o + 16) (j := o + 16) rfl rfl Tryd.runUnderlying22 Tryd.sizeOf5 (by omega) (by omega) (by omega)) ?_
   refine dr_q rfl rfl (q_call (v := .int .u64 (((prow bs i).vaddr : Nat) : Int)) (args2 rfl rfl) Tryd.call36 (fun w9 hw => tb64 e_vaddr hcut (by omega) (by omega) (by omega) (hw.get (i := 0) rfl))) ?_
   iterate 3 refine drM rfl rfl rfl ?_
   refine dr_q rfl rfl (q_add (a := (o : Int)) (b := (24 : Int)) (r := ((o + 24 : Nat) : Int)) rfl rfl (w_u64e (by omega) (by omega) (by omega))) ?_
   refine dr_q rfl rfl (q_slice_k (l := o + 24) (j := o + 24) rfl rfl Tryd.runUnderlying22 Tryd.sizeOf5 (by omega) (by omega) (by omega)) ?_
   refine dr_q rfl rfl (q_call (v := .int .u64 (((prow bs i).paddr : Nat) : Int)) (args2 rfl rfl) Tryd.call36 (fun w9 hw => tb64 e_paddr hcut (by omega) (by omega) (by omega) (hw.get (i := 0) rfl))) ?_
   iterate 3 refine drM rfl rfl rfl ?_
   refine dr_q rfl rfl (q_add (a := (o : Int)) (b := (32 : Int)) (r := ((o + 32 : Nat) : Int)) rfl rfl (w_u64e (by omega) (by omega) (by omega))) ?_
   refine dr_q rfl rfl (q_slice_k (l := o + 32) (j := o + 32) rfl rfl Tryd.runUnderlying22 Tryd.sizeOf5 (by omega) (by omega) (by omega)) ?_
   refine dr_q rfl rfl (q_call (v := .int .u64 (((prow bs i).filesz : Nat) : Int)) (args2 rfl rfl) Tryd.call36 (fun w9 hw => tb64 e_filesz hcut (by omega) (by omega) (by omega) (hw.get (i := 0) rfl))) ?_
   iterate 3 refine drM rfl rfl rfl ?_
   refine dr_q rfl rfl (q_add (a := (o : Int)) (b := (40 : Int)) (r := ((o + 40 : Nat) : Int)) rfl rfl (w_u64e (by omega) (by omega) (by omega))) ?_
   refine dr_q rfl rfl (q_slice_k (l := o + 40) (j := o + 40) rfl rfl Tryd.runUnderlying22 Tryd.sizeOf5 (by omega) (by omega) (by omega)) ?_
   refine dr_q rfl rfl (q_call (v := .int .u64 (((prow bs i).memsz : Nat) : Int)) (args2 rfl rfl) Tryd.call36 (fun w9 hw => tb64 e_memsz hcut (by omega) (by omega) (by omega) (hw.get (i := 0) rfl))) ?_
   iterate 3 refine drM rfl rfl rfl ?_
   refine dr_q rfl rfl (q_add (a := (o : Int)) (b := (48 : Int)) (r := ((o + 48 : Nat) : Int)) rfl rfl (w_u64e (by omega) (by omega) (by omega))) ?_
   refine dr_q rfl rfl (q_slice_k (l := o + 48) (j := o + 48) rfl rfl Tryd.runUnderlying22 Tryd.sizeOf5 (by omega) (by omega) (by omega)) ?_
   refine dr_q rfl rfl (q_call (v := .int .u64 (((prow bs i).align : Nat) : Int)) (args2 rfl rfl) Tryd.call36 (fun w9 hw => tb64 e_align hcut (by omega) (by omega) (by omega) (hw.get (i := 0) rfl))) ?_
   refine dr_q rfl rfl (q_build (vs := [(0, .int .i64 (((prow bs i).type : Nat) : Int)), (1, .int .u32 (((prow bs i).flags : Nat) : Int)), (2, .int .u64 (((prow bs i).off : Nat) : Int)), (3, .int .u64 (((prow bs i).vaddr : Nat) : Int)), (4, .int .u64 (((prow bs i).paddr : Nat) : Int)), (5, .int .u64 (((prow bs i).filesz : Nat) : Int)), (6, .int .u64 (((prow bs i).memsz : Nat) : Int)), (7, .int .u64 (((prow bs i).align : Nat) : Int))]) (cs := #[.int .i64 (((prow bs i).type : Nat) : Int), .int .u32 (((prow bs i).flags : Nat) : Int), .int .u64 (((prow bs i).off : Nat) : Int), .int .u64 (((prow bs i).vaddr : Nat) : Int), .int .u64 (((prow bs i).paddr : Nat) : Int), .int .u64 (((prow bs i).filesz : Nat) : Int), .int .u64 (((prow bs i).memsz : Nat) : Int), .int .u64 (((prow bs i).align : Nat) : Int)]) ⟨rfl, rfl, rfl, rfl, rfl, rfl, rfl, rfl, rfl, rfl, rfl, rfl, rfl, rfl, rfl, rfl, trivial⟩ (fun _ => by kernel_rfl)) ?_
   refine dr_q rfl rfl (q_nil rfl) ?_
   refine dr_q rfl rfl (q_fieldj (j := 0) rfl Tryd.runUnderlying95 rfl Tryd.sizeOf93 rfl) ?_
   refine dr_m0 rfl rfl (m_stores (i := 0) (vs := [.int .i64 (((prow bs i).type : Nat) : Int), .int .u32 (((prow bs i).flags : Nat) : Int), .int .u64 (((prow bs i).off : Nat) : Int), .int .u64 (((prow bs i).vaddr : Nat) : Int), .int .u64 (((prow bs i).paddr : Nat) : Int), .int .u64 (((prow bs i).filesz : Nat) : Int), .int .u64 (((prow bs i).memsz : Nat) : Int), .int .u64 (((prow bs i).align : Nat) : Int)]) (l' := [.int .i64 (((prow bs i).type : Nat) : Int), .int .u32 (((prow bs i).flags : Nat) : Int), .int .u64 (((prow bs i).off : Nat) : Int), .int .u64 (((prow bs i).vaddr : Nat) : Int), .int .u64 (((prow bs i).paddr : Nat) : Int), .int .u64 (((prow bs i).filesz : Nat) : Int), .int .u64 (((prow bs i).memsz : Nat) : Int), .int .u64 (((prow bs i).align : Nat) : Int), .nilIface, .pointer none]) rfl rfl Tryd.sizeOf93 rfl rfl rfl (by simp) rfl rfl (by intro h; omega)) (fun _ _ p hp => by simp at hp; simp [hp]) (fun _ _ => ?_)
   refine dr_nil ?_
   refine se_block ?_
   refine se_seq ?_
   refine scK [0, 4, 8, 9, 10, 11, 12, 13, 14, 15, 16, 26, 36, 38, 39, 40] rfl ?_
   refine sc_seq ?_
   refine scR ?_
   refine sqM rfl rfl ?_
   refine sq_q (q_nil rfl) rfl ?_
   refine sq_q (q_fieldj (j := 0) rfl Tryd.runUnderlying95 rfl Tryd.sizeOf93 rfl) rfl ?_
   refine sq_q (q_fieldj (j := 2) rfl Tryd.runUnderlying93 rfl Tryd.sizeOf23 rfl) rfl ?_
   refine sq_q (q_load1 rfl Tryd.isAgg23 (i := 0) rfl rfl) rfl ?_
   refine sq_q (q_conv rfl Tryd.runUnderlying23 Tryd.runUnderlying2 rfl) rfl ?_
   refine sq_split (q_lss rfl rfl) rfl (fun h143_6 => ?_) (fun h143_6 => ?_)
   ·
    have hbad : ¬ Good bs := fun hg => by have h9 := (hg.ps i hin).1; rw [wneg q3] at h143_6; omega
    refine sqK [0, 4, 8, 9, 10, 11, 12, 13, 14, 15, 16, 26, 36, 38, 39, 40, 729] rfl ?_
    refine sc_cond_t rfl ?_
    refine sc_seq ?_
    refine sc_draw [0, 1, 2, 3, 4, 5, 6, 7, 8, 9, 10, 13, 11, 12, 14] [11] _ mixed (by kernel_rfl) (by kernel_rfl) (List.Subset.refl _) ?_
    iterate 2 refine drM rfl rfl rfl ?_
    refine dr_q rfl rfl (q_conv rfl Tryd.runUnderlying12 Tryd.runUnderlying2 rfl) ?_
    refine dr_q rfl rfl (q_add rfl rfl rfl) ?_
    refine drM rfl rfl rfl ?_
    refine dr_q rfl rfl (q_nil rfl) ?_
    refine dr_q rfl rfl (q_fieldj (j := 0) rfl Tryd.runUnderlying95 rfl Tryd.sizeOf93 rfl) ?_
    refine dr_q rfl rfl (q_fieldj (j := 2) rfl Tryd.runUnderlying93 rfl Tryd.sizeOf23 rfl) ?_
    refine dr_q rfl rfl (q_load1 rfl Tryd.isAgg23 (i := 0) rfl rfl) ?_
    refine dr_q rfl rfl (q_iface rfl Tryd.runUnderlying23 rfl) ?_
    refine dr_q rfl rfl (q_build (vs := [(0, _), (1, _), (2, _)]) ⟨rfl, rfl, rfl, rfl, rfl, rfl, trivial⟩ b139) ?_
    refine drA rfl rfl rfl ?_
    refine dr_m rfl rfl (m_box rfl rfl) (fun _ _ p hp => List.mem_cons_of_mem _ hp) (fun _ _ => ?_)
    refine dr_q rfl rfl (q_iface rfl Tryd.runUnderlying137 rfl) ?_
    refine drA rfl rfl rfl ?_
    refine dr_nil ?_
    refine se_seq ?_
    refine scK [2, 3] rfl ?_
    refine sc_ret ?_
    refine se_then_ret ?_
    refine se_block_ret ?_
    iterate 2 refine se_then_ret ?_
    refine se_block_ret ?_
    refine se_then_ret ?_
    exact se_end (res2 Tryd.results22 rfl rfl) (fun w' hw => .inl ⟨hbad, ⟨_, _, _, rfl⟩, hw.eff⟩)
   have hpo : (prow bs i).off < 9223372036854775808 := by rw [wneg q3] at h143_6; omega
   refine sqK [0, 4, 8, 9, 10, 11, 12, 13, 14, 15, 16, 26, 36, 38, 39, 40, 729] rfl ?_
   refine sc_cond_f rfl ?_
   refine scS ?_
   refine scK [0, 4, 8, 9, 10, 11, 12, 13, 14, 15, 16, 26, 36, 38, 39, 40] rfl ?_
   refine sc_seq ?_
   refine scR ?_
   refine sqM rfl rfl ?_
   refine sq_q (q_nil rfl) rfl ?_
   refine sq_q (q_fieldj (j := 0) rfl Tryd.runUnderlying95 rfl Tryd.sizeOf93 rfl) rfl ?_
   refine sq_q (q_fieldj (j := 5) rfl Tryd.runUnderlying93 rfl Tryd.sizeOf23 rfl) rfl ?_
   refine sq_q (q_load1 rfl Tryd.isAgg23 (i := 0) rfl rfl) rfl ?_
   refine sq_q (q_conv rfl Tryd.runUnderlying23 Tryd.runUnderlying2 rfl) rfl ?_
   refine sq_split (q_lss rfl rfl) rfl (fun h145_6 => ?_) (fun h145_6 => ?_)
   ·
    have hbad : ¬ Good bs := fun hg => by have h9 := (hg.ps i hin).2; rw [wneg q6] at h145_6; omega
    refine sqK [0, 4, 8, 9, 10, 11, 12, 13, 14, 15, 16, 26, 36, 38, 39, 40, 749] rfl ?_
    refine sc_cond_t rfl ?_
    refine sc_seq ?_
    refine sc_draw [0, 1, 2, 3, 4, 5, 6, 7, 8, 9, 10, 13, 11, 12, 14] [11] _ mixed (by kernel_rfl) (by kernel_rfl) (List.Subset.refl _) ?_
    iterate 2 refine drM rfl rfl rfl ?_
    refine dr_q rfl rfl (q_conv rfl Tryd.runUnderlying12 Tryd.runUnderlying2 rfl) ?_
    refine dr_q rfl rfl (q_add rfl rfl rfl) ?_
    refine drM rfl rfl rfl ?_
    refine dr_q rfl rfl (q_nil rfl) ?_
    refine dr_q rfl rfl (q_fieldj (j := 0) rfl Tryd.runUnderlying95 rfl Tryd.sizeOf93 rfl) ?_
    refine dr_q rfl rfl (q_fieldj (j := 5) rfl Tryd.runUnderlying93 rfl Tryd.sizeOf23 rfl) ?_
    refine dr_q rfl rfl (q_load1 rfl Tryd.isAgg23 (i := 0) rfl rfl) ?_
    refine dr_q rfl rfl (q_iface rfl Tryd.runUnderlying23 rfl) ?_
    refine dr_q rfl rfl (q_build (vs := [(0, _), (1, _), (2, _)]) ⟨rfl, rfl, rfl, rfl, rfl, rfl, trivial⟩ b139) ?_
    refine drA rfl rfl rfl ?_
    refine dr_m rfl rfl (m_box rfl rfl) (fun _ _ p hp => List.mem_cons_of_mem _ hp) (fun _ _ => ?_)
    refine dr_q rfl rfl (q_iface rfl Tryd.runUnderlying137 rfl) ?_
    refine drA rfl rfl rfl ?_
    refine dr_nil ?_
    refine se_seq ?_
    refine scK [2, 3] rfl ?_
    refine sc_ret ?_
    refine se_then_ret ?_
    refine se_block_ret ?_
    iterate 2 refine se_then_ret ?_
    refine se_block_ret ?_
    refine se_then_ret ?_
    exact se_end (res2 Tryd.results22 rfl rfl) (fun w' hw => .inl ⟨hbad, ⟨_, _, _, rfl⟩, hw.eff⟩)
   have hpf : (prow bs i).filesz < 9223372036854775808 := by rw [wneg q6] at h145_6; omega
   refine sqK [0, 4, 8, 9, 10, 11, 12, 13, 14, 15, 16, 26, 36, 38, 39, 40, 749] rfl ?_
   refine sc_cond_f rfl ?_
   refine scS ?_
   refine scK [0, 4, 8, 9, 10, 11, 12, 13, 14, 15, 16, 26, 36, 38, 40] rfl ?_
   refine sc_seq ?_
   refine sc_draw [0, 1, 2, 3, 4, 5, 6, 7, 8, 9, 10, 11, 12, 13, 14, 15, 16, 17] [14, 17] [(N, .cells [.int .i64 (((prow bs i).type : Nat) : Int), .int .u32 (((prow bs i).flags : Nat) : Int), .int .u64 (((prow bs i).off : Nat) : Int), .int .u64 (((prow bs i).vaddr : Nat) : Int), .int .u64 (((prow bs i).paddr : Nat) : Int), .int .u64 (((prow bs i).filesz : Nat) : Int), .int .u64 (((prow bs i).memsz : Nat) : Int), .int .u64 (((prow bs i).align : Nat) : Int), .nilIface, .pointer none].toArray 95 (0, 0))] mixed (by kernel_rfl) (by kernel_rfl) (fun _ h => by simp at h; simp [h]) ?_
   iterate 3 refine drM rfl rfl rfl ?_
   refine dr_q rfl rfl (q_nil rfl) ?_
   refine dr_q rfl rfl (q_fieldj (j := 0) rfl Tryd.runUnderlying95 rfl Tryd.sizeOf93 rfl) ?_
   refine dr_q rfl rfl (q_fieldj (j := 2) rfl Tryd.runUnderlying93 rfl Tryd.sizeOf23 rfl) ?_
   refine dr_q rfl rfl (q_load1 rfl Tryd.isAgg23 (i := 0) rfl rfl) ?_
   refine dr_q rfl rfl (q_conv rfl Tryd.runUnderlying23 Tryd.runUnderlying2 (w_i64 (by omega) (by omega))) ?_
   refine drM rfl rfl rfl ?_
   refine dr_q rfl rfl (q_nil rfl) ?_
   refine dr_q rfl rfl (q_fieldj (j := 0) rfl Tryd.runUnderlying95 rfl Tryd.sizeOf93 rfl) ?_
   refine dr_q rfl rfl (q_fieldj (j := 5) rfl Tryd.runUnderlying93 rfl Tryd.sizeOf23 rfl) ?_
   refine dr_q rfl rfl (q_load1 rfl Tryd.isAgg23 (i := 0) rfl rfl) ?_
   refine dr_q rfl rfl (q_conv rfl Tryd.runUnderlying23 Tryd.runUnderlying2 (w_i64 (by omega) (by omega))) ?_
   refine dr_m rfl rfl (new_inv (off := (prow bs i).off) (n := (prow bs i).filesz) (by omega) (by omega) rfl rfl rfl) (fun _ _ p hp => by simp at hp; simp [hp]) (fun _ _ => ?_)
   refine dr_q rfl rfl (q_nil rfl) ?_
   refine dr_q rfl rfl (q_fieldj (j := 9) rfl Tryd.runUnderlying95 rfl Tryd.sizeOf81 rfl) ?_
   refine dr_m0l rfl rfl (m_store rfl rfl Tryd.sizeOf81 rfl (i := 1) rfl rfl rfl (by intro h; omega)) (by kernel_rfl) (fun _ _ => ?_)
   refine dr_nil ?_
   refine se_seq ?_
   refine scK [0, 4, 8, 9, 10, 11, 12, 13, 14, 15, 16, 26, 36, 38, 40] rfl ?_
   refine scR ?_
   iterate 2 refine sqM rfl rfl ?_
   refine sq_q (q_nil rfl) rfl ?_
   refine sq_q (q_fieldj (j := 9) rfl Tryd.runUnderlying95 rfl Tryd.sizeOf81 rfl) rfl ?_
   refine sq_q (q_load1 rfl Tryd.isAgg81 (i := 1) rfl rfl) rfl ?_
   refine sq_q (q_iface rfl Tryd.runUnderlying81 rfl) rfl ?_
   refine sq_q (q_nil rfl) rfl ?_
   refine sq_q (q_fieldj (j := 8) rfl Tryd.runUnderlying95 rfl Tryd.sizeOf80 rfl) rfl ?_
   refine sq_m0 ((m_store rfl rfl Tryd.sizeOf80 rfl (i := 1) rfl rfl rfl (by intro h; omega))) (fun _ _ => ?_)
   refine sqK [0, 4, 8, 9, 10, 11, 12, 13, 14, 15, 16, 26, 36, 38, 40] rfl ?_
   refine sc_region ?_
   iterate 2 refine sqM rfl rfl ?_
   refine sq_q (q_nil rfl) rfl ?_
   refine sq_q (q_fieldj (j := 10) rfl Tryd.runUnderlying72 rfl Tryd.sizeOf68 rfl) rfl ?_
   refine sq_q (q_load1 rfl Tryd.isAgg68 (i := 4) rfl rfl) rfl ?_
   refine sqM rfl rfl ?_
   refine sq_m (m_lit (vs := [(0, _)]) ⟨rfl, rfl, trivial⟩ (e := 89) (l := [.pointer (some ⟨N, 0, none⟩)]) (fun w => by kernel_rfl)) rfl (fun _ _ => ?_)
   refine sq_m (m_app (j0 := 4) (j := 0) (i := Tryd.t89) (z := .pointer none) (n := i) (cap := cap) (xs := ptrs f i) (pad := pad) (news := [.pointer (some ⟨N, 0, none⟩)]) rfl rfl rfl rfl rfl Tryd.underlying68 (by kernel_rfl) (by kernel_rfl) (by kernel_rfl) (by rw [ptrs_length, t89_size, Nat.mul_one]) (by rw [hi5, t89_size, Nat.mul_one]) hi3 hi4 (by rw [t89_size]; rfl) (by rw [t89_size]; simp) rfl (by omega) (by rw [t89_bytes]; omega) (by intro h; omega)) rfl (fun y hy => ?_)
   obtain ⟨hy1, hy2, hy3, hy4, hy5, hy6⟩ := hy
   refine sq_q (q_nil rfl) rfl ?_
   refine sq_q (q_fieldj (j := 10) rfl Tryd.runUnderlying72 rfl Tryd.sizeOf68 rfl) rfl ?_
   refine sq_m0 (m_store rfl rfl Tryd.sizeOf68 rfl (i := 5) rfl rfl rfl (by intro h; omega)) (fun _ _ => ?_)
   refine sq_nil ?_
   refine se_block ?_
   refine se_seq ?_
   refine scK [0, 4, 8, 9, 10, 11, 12, 13, 14, 15, 16, 26, 36, 38] rfl ?_
   refine sc_region ?_
   refine sqM rfl rfl ?_
   refine sq_q (q_add rfl rfl (w_i64 (by omega) (by omega))) rfl ?_
   refine sqA rfl rfl ?_
   refine sq_nil ?_
   refine se_loop ⟨i + 1, y.N, y.b, y.cap, y.pad, fun j => if j = i then (N, N + 1) else f j⟩ (by dsimp only; omega) ⟨by dsimp only; omega, fun j hj => (by
    have hj2 : j < i ∨ j = i := by dsimp only at hj; omega
    rcases hj2 with hj2 | rfl
    ·
     exact hi2 j hj2
    ·
     exact ⟨hpo, hpf⟩), hy3, hy4, by rw [hy5, t89_size, Nat.mul_one], by rcases hy1 with hy1 | hy1 <;> dsimp only <;> omega, fun j hj => (by
    have hj2 : j < i ∨ j = i := by dsimp only at hj; omega
    dsimp only
    rcases hj2 with hj2 | rfl
    ·
     rw [if_neg (by omega)]; exact hi8 j hj2
    ·
     rw [if_pos rfl]; exact ⟨hge2, by dsimp only; omega⟩)⟩ ⟨rfl, rfl, rfl, rfl, rfl, rfl, rfl, rfl, rfl, rfl, rfl, rfl, rfl, rfl, trivial⟩ (fun w h => ?_)
   unfold plM
   refine h.cast_mm ?_
   rw [pmem_next, ptrs_next]
   simp only [List.cons_append, List.append_assoc, List.nil_append]
   exact perm_round
  refine sqK [0, 4, 8, 9, 10, 11, 12, 13, 14, 15, 16, 26, 36, 38, 593] rfl ?_
  refine sc_cond_f rfl ?_
  refine sc_exit ?_
  iterate 2 refine se_then_exit ?_
  refine se_block_hit ?_
  refine se_seq ?_
  iterate 2 refine scK [0, 4, 8, 9, 13, 14, 15, 16, 26] rfl ?_
  have hdone : i = (hd bs).phnum := by omega
  subst hdone
  refine sc_mem (fun _ h => h.sublist (.cons _ (List.Sublist.refl _))) ?_
  exact hF _ _ _ _ _ _ _ _ _ _ _ _ ⟨hchk, hne ▸ hcut, hi2⟩ hbig hwd hfp hsb hshn1 hshn2 hnms1 hnms2 hmode2 hi6 hi8
 have hbad := mode_cut hmode hcut
 refine sqK [0, 4, 8, 9, 10, 11, 12, 13, 14, 15, 16, 26, 36, 37] rfl ?_
 refine sc_seq ?_
 refine scR ?_
 refine sqM rfl rfl ?_
 refine sq_q (q_iface_neq_nil rfl rfl Tryd.runUnderlying86) rfl ?_
 refine sqK [0, 4, 8, 9, 10, 11, 12, 13, 14, 15, 16, 26, 36, 37, 589] rfl ?_
 refine sc_cond_t rfl ?_
 refine scR ?_
 refine sqM rfl rfl ?_
 iterate 2 refine sqA rfl rfl ?_
 refine sqK [2, 3] rfl ?_
 refine sc_ret ?_
 refine se_then_ret ?_
 exact se_end (res2 Tryd.results22 rfl rfl) (fun w' hw => .inl ⟨hbad, ⟨_, _, _, rfl⟩, hw.eff⟩)

end Go.Proofs.YtgkjnkhoopcjgaaDoor
