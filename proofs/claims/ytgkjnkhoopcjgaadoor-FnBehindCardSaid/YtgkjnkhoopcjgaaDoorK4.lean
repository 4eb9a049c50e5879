/- Part 4 of the proof: Wn7, Wn8, Wo, Sy1, Pb, Sy2, Ws1, Ws2, Sy3, Sy4, Ws3. By program out of the working texts. Conditions: as each theorem says. -/
import Derived.Test.YtgkjnkhoopcjgaaDoorK3
/- NewFile: the loop over the sections. Conditions: the bytes lie in memory, at most 8192 of them; the programs are read. -/
namespace Go.Proofs.YtgkjnkhoopcjgaaDoor
open Go.Sx
set_option maxRecDepth 100000
set_option maxHeartbeats 4000000

/-- The sections' table is whole and right. -/
structure SecOk (bs : List UInt8) : Prop where
 head : HeadOk bs
 pcut : CutOk bs (hd bs).phoff ((hd bs).phnum * (hd bs).phes)
 ps : ∀ i, i < (hd bs).phnum → (prow bs i).Ok
 scut : CutOk bs (hd bs).shoff ((hd bs).shnum * (hd bs).shes)
 ss : ∀ i, i < (hd bs).shnum → (srow bs i).Ok
def nmL (bs : List UInt8) (n : Nat) : List Value := (List.range n).map fun j => .int .u32 (((srow bs j).name : Nat) : Int)
theorem nmL_length (bs : List UInt8) (n : Nat) : (nmL bs n).length = n := by simp [nmL]
theorem nmL_succ (bs : List UInt8) (n : Nat) : nmL bs (n + 1) = nmL bs n ++ [.int .u32 (((srow bs n).name : Nat) : Int)] := by simp [nmL, List.range_succ]

def StG (g gu : Gx) (bs : List UInt8) (u : Value) (ms : MM) (w0 : World) : Prop := ∀ (big : Bool) (fp N pb pcap nb ncap cb scap : Nat) (f sf : Nat → Nat × Nat) (pad npad spad : List Value), SecOk bs → isBig bs = big → w0.heap.size ≤ fp → (∀ j, j < (hd bs).shnum → w0.heap.size ≤ (sf j).1 ∧ w0.heap.size ≤ (sf j).2) → w0.heap.size ≤ cb → w0.heap.size ≤ pb → (∀ j, j < (hd bs).phnum → w0.heap.size ≤ (f j).1 ∧ w0.heap.size ≤ (f j).2) →
 Sc Tryd.prog r45 (bodyPost Tryd.prog Tryd.f22 (NF bs u ((1, g.o) :: (0, gu.o) :: ms) w0)) 1287 w0 E0 [(8, .pointer (some ⟨fp, 0, none⟩)), (13, .int .i64 ((hd bs).shoff : Int)), (14, .int .i64 ((hd bs).shes : Int)), (16, .int .i64 ((hd bs).names : Int)), (41, .slice (some ⟨nb, 0, none⟩) (hd bs).shnum ncap)] N
  ((nb, .cells (nmL bs (hd bs).shnum ++ npad).toArray 74 (0, 0)) :: (cb, .cells (ptrs sf (hd bs).shnum ++ spad).toArray 73 (0, 0)) :: (pb, .cells (ptrs f (hd bs).phnum ++ pad).toArray 89 (0, 0)) :: (fp, fileO bs big (hd bs).type (hd bs).machine (hd bs).entry (.slice (some ⟨cb, 0, none⟩) (hd bs).shnum scap) (.slice (some ⟨pb, 0, none⟩) (hd bs).phnum pcap)) :: (1, g.o) :: (0, gu.o) :: (smem bs u (fun _ => []) sf (hd bs).shnum ++ (pmem bs u f (hd bs).phnum ++ ms)))

/-- A call of sliceCapWithSize. -/
theorem cap120_inv {w0 : World} {E : Nat → Prop} {fm : FM} {N c : Nat} {mm : MM} {x y : Operand} {ts : Array TypeId} {d : Option Nat} {ty : TypeId} {pos : String} {after : Array Edge} {gd : Option (Nat × Bool)} (hx : fm.ev x = some (.int .u64 120)) (hy : fm.ev y = some (.int .u64 (c : Int))) (hc : c < 18446744073709551616) :
  Main Tryd.prog w0 E fm N mm ⟨d, .call { callee := .value (.func 40), args := #[x, y], argTypes := ts }, ty, pos, after, gd⟩ (fun r : Int => .int .i64 r) (fun _ => N) (fun _ => mm) (fun r => (r = -1 ∧ 65536 ≤ c) ∨ ∃ k : Nat, r = k ∧ k ≤ 1310720 ∧ c < 9223372036854775808) := by
 refine m_call (args2 hx hy) Tryd.call40 fun w hw => ?_
 by_cases h : c < 9223372036854775808
 ·
  refine (cap40_120_s h).mono fun en w' ⟨r, h1, h2, h3⟩ => ⟨r, h3.imp id fun ⟨k, h4, h5⟩ => ⟨k, h4, h5, h⟩, h1, hw.same h2⟩
 ·
  exact (cap40_120_neg (by omega) hc).mono fun en w' ⟨h1, h2⟩ => ⟨_, .inl ⟨rfl, by omega⟩, h1, hw.same h2⟩

theorem wrap_un {x : Int} (h0 : -9223372036854775808 ≤ x) (h1 : x ≤ 9223372036854775807) : ∃ c : Nat, IntKind.u64.wrap x = c ∧ c < 18446744073709551616 ∧ ((0 ≤ x ∧ (c : Int) = x) ∨ (x < 0 ∧ 9223372036854775808 ≤ c)) := by
 refine ⟨(IntKind.u64.wrap x).toNat, ?_, ?_, ?_⟩
 ·
  rw [m_u64]; omega
 ·
  rw [m_u64]; omega
 ·
  rw [m_u64]; omega
theorem m2_she {bs : List UInt8} {shn nms : Int} (h : Mode2 bs shn nms) (hp : 0 < shn) (hc : (hd bs).shes < wd (isWide bs) 40 64) : ¬ Good bs := by
 rcases h with ⟨h1, _⟩ | ⟨h1, _⟩
 ·
  exact fun hg => by have h9 := hg.head.she; omega
 ·
  exact h1
theorem all_le {bs : List UInt8} {i : Nat} (h : ∀ j, j < i → (srow bs j).Ok) (hi : (srow bs i).Ok) : ∀ j, j ≤ i → (srow bs j).Ok := fun j hj => by
 by_cases hji : j = i
 ·
  subst hji; exact hi
 ·
  exact h j (by omega)
theorem m2_big {bs : List UInt8} {shn nms : Int} {c : Nat} (h : Mode2 bs shn nms) (hp : 65536 ≤ c) (hc : (0 ≤ shn ∧ (c : Int) = shn) ∨ (shn < 0 ∧ 9223372036854775808 ≤ c)) : ¬ Good bs := by
 rcases h with ⟨h1, _⟩ | ⟨h1, _⟩
 ·
  have := (hd_lt bs).shnum; omega
 ·
  exact h1
theorem m2_quo {bs : List UInt8} {shn nms : Int} {c q : Nat} (h : Mode2 bs shn nms) (hq : 18446744073709551615 / c = q) (hs : 0 < shn) (hc : (c : Int) = shn) (hl : q < (hd bs).shes) : ¬ Good bs := by
 rcases h with ⟨h1, _⟩ | ⟨h1, _⟩
 ·
  have h2 := (hd_lt bs).shnum
  have h3 := (hd_lt bs).shes
  have := (Nat.le_div_iff_mul_le (k := c) (x := 65536) (y := 18446744073709551615) (by omega)).2 (by omega)
  omega
 ·
  exact h1
theorem quo_mul {c q e : Nat} (h0 : 0 < c) (hq : 18446744073709551615 / c = q) (h : e ≤ q) : c * e < 18446744073709551616 := by
 subst hq
 have := (Nat.le_div_iff_mul_le h0).1 h
 rw [Nat.mul_comm]; omega
theorem m2_cut {bs : List UInt8} {shn nms : Int} {c : Nat} (h : Mode2 bs shn nms) (hc : (0 ≤ shn ∧ (c : Int) = shn) ∨ (shn < 0 ∧ 9223372036854775808 ≤ c)) (hn : ¬ CutOk bs (hd bs).shoff (c * (hd bs).shes)) : ¬ Good bs := by
 rcases h with ⟨h1, _⟩ | ⟨h1, _⟩
 ·
  obtain rfl : c = (hd bs).shnum := by omega
  exact fun hg => hn hg.scut
 ·
  exact h1
theorem m2_next {bs : List UInt8} {shn nms : Int} {c : Nat} (h : Mode2 bs shn nms) (hc : (0 ≤ shn ∧ (c : Int) = shn) ∨ (shn < 0 ∧ 9223372036854775808 ≤ c)) (hc2 : c < 9223372036854775808) (hs : CutOk bs (hd bs).shoff (c * (hd bs).shes)) (hb : bs.length ≤ 8192) (he : 0 < shn → 40 ≤ (hd bs).shes) :
  c = (hd bs).shnum ∧ shn = (hd bs).shnum ∧ nms = (hd bs).names ∧ ((hd bs).shnum = 0 → (hd bs).shoff = 0) := by
 rcases h with ⟨h1, h2, h3⟩ | ⟨h1, h2⟩
 ·
  exact ⟨by omega, h1, h2, h3⟩
 ·
  exfalso
  have h3 : (0 ≤ shn ∧ (c : Int) = shn) := by omega
  have h4 : 65280 ≤ c := by omega
  have : 65280 * 40 ≤ c * (hd bs).shes := Nat.mul_le_mul h4 (he (by omega))
  rcases hs with hs | hs <;> omega

/-- A round of the loop over the sections. -/
structure SL where
 i : Nat
 N : Nat
 nb : Nat
 ncap : Nat
 npad : List Value
 cb : Nat
 cap : Nat
 spad : List Value
 sf : Nat → Nat × Nat
structure SLF (bs : List UInt8) (w0 : World) (z : SL) : Prop where
 i : z.i ≤ (hd bs).shnum
 ss : ∀ j, j < z.i → (srow bs j).Ok
 ncap : z.i ≤ z.ncap
 nmax : z.ncap ≤ maxLen
 npad : z.npad.length = z.ncap - z.i
 nb : w0.heap.size ≤ z.nb
 cap : z.i ≤ z.cap
 max : z.cap ≤ maxLen
 pad : z.spad.length = z.cap - z.i
 cb : w0.heap.size ≤ z.cb
 new : ∀ j, j < z.i → w0.heap.size ≤ (z.sf j).1 ∧ w0.heap.size ≤ (z.sf j).2
theorem t73_size : Tryd.t73.size = 1 := by kernel_rfl
theorem t73_bytes : Tryd.t73.bytes = 8 := by kernel_rfl
theorem t74_size : Tryd.t74.size = 1 := by kernel_rfl
theorem t74_bytes : Tryd.t74.bytes = 4 := by kernel_rfl
theorem mk73 {n : Nat} (h : n ≤ 1310720) : Tryd.t73.bytes * n ≤ 281474976710656 := by rw [t73_bytes]; omega
theorem mk74 {n : Nat} (h : n ≤ 1310720) : Tryd.t74.bytes * n ≤ 281474976710656 := by rw [t74_bytes]; omega
theorem smem_next {bs : List UInt8} {u : Value} {f : Nat → Nat × Nat} {i a b : Nat} : smem bs u (fun _ => []) (fun j => if j = i then (a, b) else f j) (i + 1) = (a, sectO [] (srow bs i) b) :: (b, rdO u (srow bs i).off (srow bs i).size) :: smem bs u (fun _ => []) f i := by
 simp only [smem, mem2, if_pos]
 congr 2
 exact mem2_congr fun j hj => by rw [if_neg (by omega)]; exact ⟨rfl, rfl, rfl⟩
theorem sub_sr4 {q1 q2 c : Nat × Obj} {ms r : MM} (x y z b : Nat × Obj) (h : ∀ p ∈ ms, p ∈ r) : List.Subset (c :: ms) (x :: y :: z :: b :: c :: q1 :: q2 :: r) := fun p hp => by
 rcases List.mem_cons.1 hp with rfl | hp
 ·
  simp
 ·
  simp [h p hp]
theorem perm_sec {cb l2 s nb l1 t d p fp sb a b : Nat × Obj} {r : MM} : ∃ l, l.Sublist (cb :: l2 :: s :: nb :: l1 :: t :: d :: p :: fp :: sb :: a :: b :: r) ∧ (d :: nb :: cb :: p :: fp :: sb :: a :: b :: t :: s :: r).Perm l := by
 refine ⟨_, .cons_cons _ (.cons _ (.cons_cons _ (.cons_cons _ (.cons _ (List.Sublist.refl _))))), ?_⟩
 refine List.Perm.trans ?_ (List.perm_middle (l₁ := [cb, s, nb, t]) (a := d) (l₂ := p :: fp :: sb :: a :: b :: r)).symm
 refine .cons _ ?_
 refine List.Perm.trans ?_ (List.perm_middle (l₁ := [cb, s]) (a := nb) (l₂ := t :: p :: fp :: sb :: a :: b :: r)).symm
 exact .cons _ (.cons _ ((List.perm_append_comm_assoc [p, fp, sb, a, b] [t, s] r).trans (.swap _ _ _)))
theorem nd_sr4 {x y a b c d e : Nat × Obj} {r ms : MM} (h : ((x :: y :: a :: b :: c :: d :: e :: (r ++ ms)).map Prod.fst).Nodup) : ((c :: d :: ms).map Prod.fst).Nodup :=
 (List.Sublist.map Prod.fst (.cons _ (.cons _ (.cons _ (.cons _ (.cons_cons _ (.cons_cons _ (.cons _ (List.sublist_append_right _ _))))))))).nodup h
noncomputable def r40 : Code := r36.tl.tl.tl.tl

theorem nf_f2_false {g gu : Gx} {bs : List UInt8} {u : Value} {ms : MM} {w0 : World} (cx : Cx g gu bs u ms w0) (hG : StG g gu bs u ms w0) : ∀ (big : Bool) (fp sb cur N pb pcap : Nat) (shn nms : Int) (f : Nat → Nat × Nat) (pad : List Value), ∀ (c k : Nat), PrOk bs → isBig bs = big → isWide bs = false → w0.heap.size ≤ fp → w0.heap.size ≤ sb → Mode2 bs shn nms → IntKind.u64.wrap shn = c → c < 9223372036854775808 → 0 ≤ shn ∧ (c : Int) = shn → c * (hd bs).shes < 18446744073709551616 → k ≤ 1310720 → (0 < shn → 40 ≤ (hd bs).shes) → w0.heap.size ≤ pb → (∀ j, j < (hd bs).phnum → w0.heap.size ≤ (f j).1 ∧ w0.heap.size ≤ (f j).2) →
 Sc Tryd.prog r40 (bodyPost Tryd.prog Tryd.f22 (NF bs u ((1, g.o) :: (0, gu.o) :: ms) w0)) 1287 w0 E0 [(0, .iface 117 u), (4, .pointer (some ⟨sb, 0, none⟩)), (8, .pointer (some ⟨fp, 0, none⟩)), (9, .int .u8 (ordN big)), (13, .int .i64 ((hd bs).shoff : Int)), (14, .int .i64 ((hd bs).shes : Int)), (15, .int .i64 shn), (16, .int .i64 nms), (35, .int .i64 (k : Int))] N
  ((pb, .cells (ptrs f (hd bs).phnum ++ pad).toArray 89 (0, 0)) :: (fp, fileO bs big (hd bs).type (hd bs).machine (hd bs).entry (.slice none 0 0) (.slice (some ⟨pb, 0, none⟩) (hd bs).phnum pcap)) :: (sb, srO (.iface 117 u) 0 cur (limOf 0 9223372036854775807) (.int .i64 (9223372036854775807 : Nat))) :: (1, g.o) :: (0, gu.o) :: (pmem bs u f (hd bs).phnum ++ ms)) := by
 intro big fp sb cur N pb pcap shn nms f pad c k hpr hbig hwd hfp hsb hmode hc1 hc4 hc5 hmul hk hesl hpb hpf0
 have hc3 : (0 ≤ shn ∧ (c : Int) = shn) ∨ (shn < 0 ∧ 9223372036854775808 ≤ c) := .inl hc5
 have c4 : bv bs 4 = 1 := by have := hpr.chk.rd.id.cls; simp [isWide] at hwd; omega
 have blen := cx.len
 have hsh := hpr.chk.sh
 have hwd2 : wd false 40 64 = 40 := rfl
 obtain ⟨hl1, hl2, hl3, hl4, hl5, hl6, hl7, hl8, hl9, hl10, hl11⟩ := hd_lt bs
 refine sc_known fun hnd0 hge0 hlt0 => ?_
 refine scR ?_
 iterate 2 refine sqM rfl rfl ?_
 refine sq_m (m_make (kl := .i64) (kc := .i64) (len := 0) (cap := k) (i := Tryd.t73) (z := .pointer none) rfl rfl Tryd.underlying67 (by kernel_rfl) (by kernel_rfl) (by kernel_rfl) rfl (Nat.zero_le _) (mk73 (by omega)) (by omega)) rfl (fun _ _ => ?_)
 refine sq_q (q_nil rfl) rfl ?_
 refine sq_q (q_fieldj (j := 9) rfl Tryd.runUnderlying72 rfl Tryd.sizeOf67 rfl) rfl ?_
 refine sq_m0 ((m_store rfl rfl Tryd.sizeOf67 rfl (i := 2) rfl rfl rfl (by intro h; omega))) (fun _ _ => ?_)
 refine sqKR [0, 4, 8, 9, 13, 14, 15, 16, 35] rfl ?_
 refine sqM rfl rfl ?_
 refine sq_m (m_make (kl := .i64) (kc := .i64) (len := 0) (cap := k) (i := Tryd.t74) (z := .int .u32 0) rfl rfl Tryd.underlying155 (by kernel_rfl) (by kernel_rfl) (by kernel_rfl) rfl (Nat.zero_le _) (mk74 (by omega)) (by omega)) rfl (fun _ _ => ?_)
 refine sqA rfl rfl ?_
 refine sqKR [0, 4, 8, 9, 13, 14, 15, 16, 41] rfl ?_
 refine sqM rfl rfl ?_
 refine sq_q (q_iface rfl Tryd.runUnderlying81 rfl) rfl ?_
 refine sqM rfl rfl ?_
 refine sq_q (q_conv rfl Tryd.runUnderlying3 Tryd.runUnderlying23 hc1) rfl ?_
 refine sqM rfl rfl ?_
 refine sq_q (q_conv rfl Tryd.runUnderlying3 Tryd.runUnderlying23 (w_u64 (by omega) (by omega))) rfl ?_
 refine sq_q (q_mul (a := (c : Int)) (b := ((hd bs).shes : Int)) (r := ((c * (hd bs).shes : Nat) : Int)) rfl rfl (w_u64e (by rw [Int.natCast_mul]) (by omega) (by omega))) rfl ?_
 refine sqM rfl rfl ?_
 refine sq_known fun hnd1 hge1 hlt1 => ?_
 refine sq_m (rda_inv (gu := gu) (ms := (sb, srO (.iface 117 u) 0 cur (limOf 0 9223372036854775807) (.int .i64 (9223372036854775807 : Nat))) :: ms) (rc_all cx.rc cx.len (nd_sr4 hnd1)) (by omega) cx.len (by omega) (sub_sr4 _ _ _ _ (fun p hp => List.mem_append_right _ hp)) (by simp) (by simp) rfl rfl rfl) rfl (fun q9 hq9 => ?_)
 refine sqM rfl rfl ?_
 iterate 2 refine sq_q (q_extract rfl rfl) rfl ?_
 iterate 2 refine sqA rfl rfl ?_
 obtain ⟨v0, v1, nn, N2⟩ := q9
 dsimp only at hq9
 rcases hq9 with ⟨hcut, db, hdb, rfl, rfl, rfl, hN2⟩ | ⟨hcut, rfl, ⟨t2, u2, rfl⟩, rfl, hN2⟩
 ·
  obtain ⟨rfl, rfl, rfl, hzero⟩ := m2_next hmode hc3 hc4 hcut cx.len (fun h => by have := hesl h; omega)
  refine sqK [0, 8, 9, 13, 14, 15, 16, 37, 41, 42] rfl ?_
  refine sc_seq ?_
  refine scR ?_
  refine sqM rfl rfl ?_
  refine sq_q (q_nil_neq_nil rfl Tryd.runUnderlying86) rfl ?_
  refine sqK [0, 8, 9, 13, 14, 15, 16, 37, 41, 42, 855] rfl ?_
  refine sc_cond_f rfl ?_
  refine scS ?_
  refine scK [0, 8, 9, 13, 14, 15, 16, 41, 42] rfl ?_
  refine sc_seq ?_
  refine scR ?_
  refine sqA rfl rfl ?_
  refine sqZ ?_
  refine sc_block ?_
  have hhead : HeadOk bs := ⟨hpr.chk.rd.id.len, hpr.chk.rd.id.m0, hpr.chk.rd.id.m1, hpr.chk.rd.id.m2, hpr.chk.rd.id.m3, hpr.chk.rd.id.cls, hpr.chk.rd.id.dat, hpr.chk.rd.id.ver, hpr.chk.rd.size, hpr.chk.rd.ver4, hpr.chk.ph, hpr.chk.sh, ⟨hpr.chk.zero, hzero⟩, hpr.chk.nm, hpr.chk.phe, by rw [hwd]; show _ → 40 ≤ _; omega⟩
  have hplain := cx.plain hhead hpr.pcut hpr.ps hcut
  have hes0 : 0 < (hd bs).shnum → 40 ≤ (hd bs).shes := by omega
  generalize hne : (hd bs).shnum * (hd bs).shes = n at *
  refine sc_loop (ι := SL) (fun z => [(0, .iface 117 u), (8, .pointer (some ⟨fp, 0, none⟩)), (9, .int .u8 (ordN big)), (13, .int .i64 ((hd bs).shoff : Int)), (14, .int .i64 ((hd bs).shes : Int)), (15, .int .i64 ((hd bs).shnum : Int)), (16, .int .i64 ((hd bs).names : Int)), (41, .slice (some ⟨z.nb, 0, none⟩) z.i z.ncap), (42, .slice (some ⟨db, 0, none⟩) n n), (43, .int .i64 (z.i : Int))]) (fun z => z.N) (fun z => (db, .cells ((cut bs (hd bs).shoff n).map u8v).toArray 5 (0, 0)) :: (z.nb, .cells (nmL bs z.i ++ z.npad).toArray 74 (0, 0)) :: (z.cb, .cells (ptrs z.sf z.i ++ z.spad).toArray 73 (0, 0)) :: (pb, .cells (ptrs f (hd bs).phnum ++ pad).toArray 89 (0, 0)) :: (fp, fileO bs big (hd bs).type (hd bs).machine (hd bs).entry (.slice (some ⟨z.cb, 0, none⟩) z.i z.cap) (.slice (some ⟨pb, 0, none⟩) (hd bs).phnum pcap)) :: (sb, srO (.iface 117 u) 0 cur (limOf 0 9223372036854775807) (.int .i64 (9223372036854775807 : Nat))) :: (1, g.o) :: (0, gu.o) :: (smem bs u (fun _ => []) z.sf z.i ++ (pmem bs u f (hd bs).phnum ++ ms))) (SLF bs w0) (fun z => (hd bs).shnum - z.i) ⟨0, N2, N + 1, k, List.replicate k (.int .u32 0), N, k, List.replicate k (.pointer none), fun _ => (0, 0)⟩ ⟨⟨by simp, fun j hj => absurd hj (Nat.not_lt_zero _), by simp, by simp only [maxLen]; omega, by simp, by dsimp only; omega, by simp, by simp only [maxLen]; omega, by simp, hge0, fun j hj => absurd hj (Nat.not_lt_zero _)⟩, ⟨rfl, rfl, rfl, rfl, rfl, rfl, rfl, rfl, rfl, rfl, trivial⟩, rfl, fun _ h => h⟩ ?_
  rintro ⟨i, N, nb, ncap, npad, cb, cap, spad, sf⟩ ⟨hi1, hi2, hi3, hi4, hi5, hi6, hi7, hi8, hi9, hi10, hi11⟩
  dsimp only at hi1 hi2 hi3 hi4 hi5 hi6 hi7 hi8 hi9 hi10 hi11
  have hi12 : cap ≤ 9223372036854775807 := hi8
  have hi13 : ncap ≤ 9223372036854775807 := hi4
  change Sc _ _ _ _ _ _ [(0, .iface 117 u), (8, .pointer (some ⟨fp, 0, none⟩)), (9, .int .u8 (ordN big)), (13, .int .i64 ((hd bs).shoff : Int)), (14, .int .i64 ((hd bs).shes : Int)), (15, .int .i64 ((hd bs).shnum : Int)), (16, .int .i64 ((hd bs).names : Int)), (41, .slice (some ⟨nb, 0, none⟩) i ncap), (42, .slice (some ⟨db, 0, none⟩) n n), (43, .int .i64 (i : Int))] N ((db, .cells ((cut bs (hd bs).shoff n).map u8v).toArray 5 (0, 0)) :: (nb, .cells (nmL bs i ++ npad).toArray 74 (0, 0)) :: (cb, .cells (ptrs sf i ++ spad).toArray 73 (0, 0)) :: (pb, .cells (ptrs f (hd bs).phnum ++ pad).toArray 89 (0, 0)) :: (fp, fileO bs big (hd bs).type (hd bs).machine (hd bs).entry (.slice (some ⟨cb, 0, none⟩) i cap) (.slice (some ⟨pb, 0, none⟩) (hd bs).phnum pcap)) :: (sb, srO (.iface 117 u) 0 cur (limOf 0 9223372036854775807) (.int .i64 (9223372036854775807 : Nat))) :: (1, g.o) :: (0, gu.o) :: (smem bs u (fun _ => []) sf i ++ (pmem bs u f (hd bs).phnum ++ ms)))
  refine sc_known fun hnd2 hge2 hlt2 => ?_
  refine sc_seq ?_
  refine scR ?_
  iterate 2 refine sqM rfl rfl ?_
  refine sq_split (q_lss rfl rfl) rfl (fun h163_2 => ?_) (fun h163_2 => ?_)
  ·
   have hin : i < (hd bs).shnum := by omega
   have hes : 40 ≤ (hd bs).shes := hes0 (by omega)
   obtain ⟨o, ho⟩ : ∃ o, o = i * (hd bs).shes := ⟨_, rfl⟩
   have hfit := row_fit hin ho
   rw [hne] at hfit
   have e_name : fld big bs ((hd bs).shoff + (o + 0)) 4 = (srow bs i).name := by simp [srow, srowAt, hwd, hbig, ho, Nat.add_assoc]
   have e_type : fld big bs ((hd bs).shoff + (o + 4)) 4 = (srow bs i).type := by simp [srow, srowAt, hwd, hbig, ho, Nat.add_assoc]
   have e_flags : fld big bs ((hd bs).shoff + (o + 8)) 4 = (srow bs i).flags := by simp [srow, srowAt, hwd, hbig, ho, Nat.add_assoc]
   have e_addr : fld big bs ((hd bs).shoff + (o + 12)) 4 = (srow bs i).addr := by simp [srow, srowAt, hwd, hbig, ho, Nat.add_assoc]
   have e_off : fld big bs ((hd bs).shoff + (o + 16)) 4 = (srow bs i).off := by simp [srow, srowAt, hwd, hbig, ho, Nat.add_assoc]
   have e_size : fld big bs ((hd bs).shoff + (o + 20)) 4 = (srow bs i).size := by simp [srow, srowAt, hwd, hbig, ho, Nat.add_assoc]
   have e_link : fld big bs ((hd bs).shoff + (o + 24)) 4 = (srow bs i).link := by simp [srow, srowAt, hwd, hbig, ho, Nat.add_assoc]
   have e_info : fld big bs ((hd bs).shoff + (o + 28)) 4 = (srow bs i).info := by simp [srow, srowAt, hwd, hbig, ho, Nat.add_assoc]
   have e_align : fld big bs ((hd bs).shoff + (o + 32)) 4 = (srow bs i).align := by simp [srow, srowAt, hwd, hbig, ho, Nat.add_assoc]
   have e_ents : fld big bs ((hd bs).shoff + (o + 36)) 4 = (srow bs i).ents := by simp [srow, srowAt, hwd, hbig, ho, Nat.add_assoc]
   have slt : (srow bs i).Lt := srowAt_lt _ _ _ _
   obtain ⟨q1, q2, q3, q4, q5, q6, q7, q8, q9, q10⟩ := slt
   refine sqK [0, 8, 9, 13, 14, 15, 16, 41, 42, 43, 859] rfl ?_
   refine sc_cond_t rfl ?_
   refine scS ?_
   refine scK [0, 8, 9, 13, 14, 15, 16, 41, 42, 43] rfl ?_
   refine sc_seq ?_
   refine sc_block ?_
   refine scR ?_
   refine sqM rfl rfl ?_
   refine sq_q (q_conv rfl Tryd.runUnderlying3 Tryd.runUnderlying12 (w_u64 (by omega) (by omega))) rfl ?_
   refine sqM rfl rfl ?_
   refine sq_q (q_conv rfl Tryd.runUnderlying3 Tryd.runUnderlying12 (w_u64 (by omega) (by omega))) rfl ?_
   refine sq_q (q_mul (a := (i : Int)) (b := ((hd bs).shes : Int)) (r := ((o : Nat) : Int)) rfl rfl (w_u64e (by rw [ho, Int.natCast_mul]) (by omega) (by omega))) rfl ?_
   refine sqA rfl rfl ?_
   refine sqKR [0, 8, 9, 13, 14, 15, 16, 41, 42, 43, 44] rfl ?_
   refine sq_m (m_alloc (l := [.string ⟨#[]⟩, .int .u32 0, .int .u32 0, .int .u64 0, .int .u64 0, .int .u64 0, .int .u32 0, .int .u32 0, .int .u64 0, .int .u64 0, .int .u64 0, .nilIface, .pointer none, .int .i64 0, .int .i64 0]) Tryd.zeroValue84 rfl) rfl (fun _ _ => ?_)
   refine sqA rfl rfl ?_
   refine sqK [0, 8, 9, 13, 14, 15, 16, 41, 42, 43, 44, 45] rfl ?_
   refine sc_seq ?_
   refine scR ?_
   refine sqM rfl rfl ?_
   refine sq_q (q_nil rfl) rfl ?_
   refine sq_q (q_fieldj (j := 0) rfl Tryd.runUnderlying72 rfl Tryd.sizeOf66 rfl) rfl ?_
   refine sq_q (q_fieldj (j := 0) rfl Tryd.runUnderlying66 rfl Tryd.sizeOf57 rfl) rfl ?_
   refine sq_q (q_load1 rfl Tryd.isAgg57 (i := 5) rfl rfl) rfl ?_
   refine sqK [0, 8, 9, 13, 14, 15, 16, 41, 42, 43, 44, 45, 872] rfl ?_
   refine sc_block ?_
   refine scR ?_
   refine sq_q (q_decT (q_eql rfl rfl) (by omega)) rfl ?_
   refine sqA rfl rfl ?_
   refine sqK [0, 8, 9, 13, 14, 15, 16, 41, 42, 43, 44, 45, 872, 873] rfl ?_
   refine sc_cond_t rfl ?_
   refine scR ?_
   iterate 4 refine sqM rfl rfl ?_
   refine sq_q (q_add (a := (o : Int)) (b := (0 : Int)) (r := ((o + 0 : Nat) : Int)) rfl rfl (w_u64e (by omega) (by omega) (by omega))) rfl ?_
   refine sq_q (q_slice_k (l := o + 0) (j := o + 0) rfl rfl Tryd.runUnderlying22 Tryd.sizeOf5 (by omega) (by omega) (by omega)) rfl ?_
   refine sq_q (q_call (v := .int .u32 (((srow bs i).name : Nat) : Int)) (args2 rfl rfl) Tryd.call35 (fun w9 hw => tb32 e_name hcut (by omega) (by omega) (by omega) (hw.get (i := 1) rfl))) rfl ?_
   refine sq_m (m_lit (vs := [(0, _)]) ⟨rfl, rfl, trivial⟩ (e := 74) (l := [.int .u32 (((srow bs i).name : Nat) : Int)]) (fun w => by kernel_rfl)) rfl (fun _ _ => ?_)
   refine sq_m (m_app (j0 := 3) (j := 0) (i := Tryd.t74) (z := .int .u32 0) (n := i) (cap := ncap) (xs := nmL bs i) (pad := npad) (news := [.int .u32 (((srow bs i).name : Nat) : Int)]) rfl rfl rfl rfl rfl Tryd.underlying155 (by kernel_rfl) (by kernel_rfl) (by kernel_rfl) (by rw [nmL_length, t74_size, Nat.mul_one]) (by rw [hi5, t74_size, Nat.mul_one]) hi3 hi4 (by rw [t74_size]; rfl) (by rw [t74_size]; simp) rfl (by omega) (by rw [t74_bytes]; omega) (by intro h; omega)) rfl (fun y hy => ?_)
   obtain ⟨hy1, hy2, hy3, hy4, hy5, hy6⟩ := hy
   refine sqA rfl rfl ?_
   refine sqK [0, 8, 9, 13, 14, 15, 16, 41, 42, 43, 44, 45] rfl ?_
   refine sc_draw [0, 1, 2, 3, 4, 5, 6, 7, 8, 9, 10, 11, 12, 13, 14, 15, 16, 17, 18, 19, 20, 21, 22, 23, 24, 25, 26, 27, 28, 29, 30, 31, 32, 33, 34, 35, 36, 37, 38, 39, 40, 41, 42, 43, 44, 45, 46, 47, 48, 49, 50, 51, 52, 53, 54, 55, 56, 57, 58, 59, 60, 61, 62, 63] [63] [(db, .cells ((cut bs (hd bs).shoff n).map u8v).toArray 5 (0, 0))] mixed (by kernel_rfl) (by kernel_rfl) (fun _ h => by simp at h; simp [h]) ?_
   iterate 4 refine drM rfl rfl rfl ?_
   refine dr_q rfl rfl (q_add (a := (o : Int)) (b := (4 : Int)) (r := ((o + 4 : Nat) : Int)) rfl rfl (w_u64e (by omega) (by omega) (by omega))) ?_
   refine dr_q rfl rfl (q_slice_k (l := o + 4) (j := o + 4) rfl rfl Tryd.runUnderlying22 Tryd.sizeOf5 (by omega) (by omega) (by omega)) ?_
   refine dr_q rfl rfl (q_call (v := .int .u32 (((srow bs i).type : Nat) : Int)) (args2 rfl rfl) Tryd.call35 (fun w9 hw => tb32 e_type hcut (by omega) (by omega) (by omega) (hw.get (i := 0) rfl))) ?_
   iterate 3 refine drM rfl rfl rfl ?_
   refine dr_q rfl rfl (q_add (a := (o : Int)) (b := (8 : Int)) (r := ((o + 8 : Nat) : Int)) rfl rfl (w_u64e (by omega) (by omega) (by omega))) ?_
   refine dr_q rfl rfl (q_slice_k (l := o + 8) (j := o + 8) rfl rfl Tryd.runUnderlying22 Tryd.sizeOf5 (by omega) (by omega) (by omega)) ?_
   refine dr_q rfl rfl (q_call (v := .int .u32 (((srow bs i).flags : Nat) : Int)) (args2 rfl rfl) Tryd.call35 (fun w9 hw => tb32 e_flags hcut (by omega) (by omega) (by omega) (hw.get (i := 0) rfl))) ?_
   iterate 3 refine drM rfl rfl rfl ?_
   refine dr_q rfl rfl (q_add (a := (o : Int)) (b := (12 : Int)) (r := ((o + 12 : Nat) : Int)) rfl rfl (w_u64e (by omega) (by omega) (by omega))) ?_
   refine dr_q rfl rfl (q_slice_k (l := o + 12) (j := o + 12) rfl rfl Tryd.runUnderlying22 Tryd.sizeOf5 (by omega) (by omega) (by omega)) ?_
   refine dr_q rfl rfl (q_call (v := .int .u32 (((srow bs i).addr : Nat) : Int)) (args2 rfl rfl) Tryd.call35 (fun w9 hw => tb32 e_addr hcut (by omega) (by omega) (by omega) (hw.get (i := 0) rfl))) ?_
   refine dr_q rfl rfl (q_conv rfl Tryd.runUnderlying74 Tryd.runUnderlying23 (w_u64 (by omega) (by omega))) ?_
   iterate 3 refine drM rfl rfl rfl ?_
   refine dr_q rfl rfl (q_add (a := (o : Int)) (b := (16 : Int)) (r := ((o + 16 : Nat) : Int)) rfl rfl (w_u64e (by omega) (by omega) (by omega))) ?_
   refine dr_q rfl rfl (q_slice_k (l := o + 16) (j := o + 16) rfl rfl Tryd.runUnderlying22 Tryd.sizeOf5 (by omega) (by omega) (by omega)) ?_
   refine dr_q rfl rfl (q_call (v := .int .u32 (((srow bs i).off : Nat) : Int)) (args2 rfl rfl) Tryd.call35 (fun w9 hw => tb32 e_off hcut (by omega) (by omega) (by omega) (hw.get (i := 0) rfl))) ?_
   refine dr_q rfl rfl (q_conv rfl Tryd.runUnderlying74 Tryd.runUnderlying23 (w_u64 (by omega) (by omega))) ?_
   iterate 3 refine drM rfl rfl rfl ?_
   refine dr_q rfl rfl (q_add (a := (o : Int)) (b := (20 : Int)) (r := ((o + 20 : Nat) : Int)) rfl rfl (w_u64e (by omega) (by omega) (by omega))) ?_
   refine dr_q rfl rfl (q_slice_k (l := o + 20) (j := o + 20) rfl rfl Tryd.runUnderlying22 Tryd.sizeOf5 (by omega) (by omega) (by omega)) ?_
   refine dr_q rfl rfl (q_call (v := .int .u32 (((srow bs i).size : Nat) : Int)) (args2 rfl rfl) Tryd.call35 (fun w9 hw => tb32 e_size hcut (by omega) (by omega) (by omega) (hw.get (i := 0) rfl))) ?_
   refine dr_q rfl rfl (q_conv rfl Tryd.runUnderlying74 Tryd.runUnderlying23 (w_u64 (by omega) (by omega))) ?_
   iterate 3 refine drM rfl rfl rfl ?_
   refine dr_q rfl rfl (q_add (a := (o : Int)) (b := (24 : Int)) (r := ((o + 24 : Nat) : Int)) rfl rfl (w_u64e (by omega) (by omega) (by omega))) ?_
   refine dr_q rfl rfl (q_slice_k (l := o + 24) (j := o + 24) rfl rfl Tryd.runUnderlying22 Tryd.sizeOf5 (by omega) (by omega) (by omega)) ?_
   refine dr_q rfl rfl (q_call (v := .int .u32 (((srow bs i).link : Nat) : Int)) (args2 rfl rfl) Tryd.call35 (fun w9 hw => tb32 e_link hcut (by omega) (by omega) (by omega) (hw.get (i := 0) rfl))) ?_
   iterate 3 refine drM rfl rfl rfl ?_
   refine dr_q rfl rfl (q_add (a := (o : Int)) (b := (28 : Int)) (r := ((o + 28 : Nat) : Int)) rfl rfl (w_u64e (by omega) (by omega) (by omega))) ?_
   refine dr_q rfl rfl (q_slice_k (l := o + 28) (j := o + 28) rfl rfl Tryd.runUnderlying22 Tryd.sizeOf5 (by omega) (by omega) (by omega)) ?_
   refine dr_q rfl rfl (q_call (v := .int .u32 (((srow bs i).info : Nat) : Int)) (args2 rfl rfl) Tryd.call35 (fun w9 hw => tb32 e_info hcut (by omega) (by omega) (by omega) (hw.get (i := 0) rfl))) ?_
   iterate 3 refine drM rfl rfl rfl ?_
   refine dr_q rfl rfl (q_add (a := (o : Int)) (b := (32 : Int)) (r := ((o + 32 : Nat) : Int)) rfl rfl (w_u64e (by omega) (by omega) (by omega))) ?_
   refine dr_q rfl rfl (q_slice_k (l := o + 32) (j := o + 32) rfl rfl Tryd.runUnderlying22 Tryd.sizeOf5 (by omega) (by omega) (by omega)) ?_
   refine dr_q rfl rfl (q_call (v := .int .u32 (((srow bs i).align : Nat) : Int)) (args2 rfl rfl) Tryd.call35 (fun w9 hw => tb32 e_align hcut (by omega) (by omega) (by omega) (hw.get (i := 0) rfl))) ?_
   refine dr_q rfl rfl (q_conv rfl Tryd.runUnderlying74 Tryd.runUnderlying23 (w_u64 (by omega) (by omega))) ?_
   iterate 3 refine drM rfl rfl rfl ?_
   refine dr_q rfl rfl (q_add (a := (o : Int)) (b := (36 : Int)) (r := ((o + 36 : Nat) : Int)) rfl rfl (w_u64e (by omega) (by omega) (by omega))) ?_
   refine dr_q rfl rfl (q_slice_k (l := o + 36) (j := o + 36) rfl rfl Tryd.runUnderlying22 Tryd.sizeOf5 (by omega) (by omega) (by omega)) ?_
   refine dr_q rfl rfl (q_call (v := .int .u32 (((srow bs i).ents : Nat) : Int)) (args2 rfl rfl) Tryd.call35 (fun w9 hw => tb32 e_ents hcut (by omega) (by omega) (by omega) (hw.get (i := 0) rfl))) ?_
   refine dr_q rfl rfl (q_conv rfl Tryd.runUnderlying74 Tryd.runUnderlying23 (w_u64 (by omega) (by omega))) ?_
   refine dr_q rfl rfl (q_build (vs := [(1, .int .u32 (((srow bs i).type : Nat) : Int)), (2, .int .u32 (((srow bs i).flags : Nat) : Int)), (3, .int .u64 (((srow bs i).addr : Nat) : Int)), (4, .int .u64 (((srow bs i).off : Nat) : Int)), (10, .int .u64 (((srow bs i).size : Nat) : Int)), (6, .int .u32 (((srow bs i).link : Nat) : Int)), (7, .int .u32 (((srow bs i).info : Nat) : Int)), (8, .int .u64 (((srow bs i).align : Nat) : Int)), (9, .int .u64 (((srow bs i).ents : Nat) : Int))]) (cs := #[.string ⟨#[]⟩, .int .u32 (((srow bs i).type : Nat) : Int), .int .u32 (((srow bs i).flags : Nat) : Int), .int .u64 (((srow bs i).addr : Nat) : Int), .int .u64 (((srow bs i).off : Nat) : Int), .int .u64 0, .int .u32 (((srow bs i).link : Nat) : Int), .int .u32 (((srow bs i).info : Nat) : Int), .int .u64 (((srow bs i).align : Nat) : Int), .int .u64 (((srow bs i).ents : Nat) : Int), .int .u64 (((srow bs i).size : Nat) : Int)]) ⟨rfl, rfl, rfl, rfl, rfl, rfl, rfl, rfl, rfl, rfl, rfl, rfl, rfl, rfl, rfl, rfl, rfl, rfl, trivial⟩ (fun _ => by kernel_rfl)) ?_
   refine dr_q rfl rfl (q_nil rfl) ?_
   refine dr_q rfl rfl (q_fieldj (j := 0) rfl Tryd.runUnderlying84 rfl Tryd.sizeOf78 rfl) ?_
   refine dr_m0 rfl rfl (m_stores (i := 2) (vs := [.string ⟨#[]⟩, .int .u32 (((srow bs i).type : Nat) : Int), .int .u32 (((srow bs i).flags : Nat) : Int), .int .u64 (((srow bs i).addr : Nat) : Int), .int .u64 (((srow bs i).off : Nat) : Int), .int .u64 0, .int .u32 (((srow bs i).link : Nat) : Int), .int .u32 (((srow bs i).info : Nat) : Int), .int .u64 (((srow bs i).align : Nat) : Int), .int .u64 (((srow bs i).ents : Nat) : Int), .int .u64 (((srow bs i).size : Nat) : Int)]) (l' := [.string ⟨#[]⟩, .int .u32 (((srow bs i).type : Nat) : Int), .int .u32 (((srow bs i).flags : Nat) : Int), .int .u64 (((srow bs i).addr : Nat) : Int), .int .u64 (((srow bs i).off : Nat) : Int), .int .u64 0, .int .u32 (((srow bs i).link : Nat) : Int), .int .u32 (((srow bs i).info : Nat) : Int), .int .u64 (((srow bs i).align : Nat) : Int), .int .u64 (((srow bs i).ents : Nat) : Int), .int .u64 (((srow bs i).size : Nat) : Int), .nilIface, .pointer none, .int .i64 0, .int .i64 0]) rfl rfl Tryd.sizeOf78 rfl rfl rfl (by simp) rfl rfl (by intro h; omega)) (fun _ _ p hp => by simp at hp; simp [hp]) (fun _ _ => ?_)
   refine dr_nil ?_
   refine se_block ?_
   refine se_seq ?_
   refine scK [0, 8, 9, 13, 14, 15, 16, 41, 42, 43, 44, 45] rfl ?_
   refine sc_seq ?_
   refine scR ?_
   refine sqM rfl rfl ?_
   refine sq_q (q_nil rfl) rfl ?_
   refine sq_q (q_fieldj (j := 0) rfl Tryd.runUnderlying84 rfl Tryd.sizeOf78 rfl) rfl ?_
   refine sq_q (q_fieldj (j := 4) rfl Tryd.runUnderlying78 rfl Tryd.sizeOf23 rfl) rfl ?_
   refine sq_q (q_load1 rfl Tryd.isAgg23 (i := 2) rfl rfl) rfl ?_
   refine sq_q (q_conv rfl Tryd.runUnderlying23 Tryd.runUnderlying2 rfl) rfl ?_
   refine sq_split (q_lss rfl rfl) rfl (fun h174_6 => ?_) (fun h174_6 => ?_)
   ·
    have hbad : ¬ Good bs := fun hg => by have h9 := (hg.ss i hin).1; rw [wneg q5] at h174_6; omega
    refine sqK [0, 8, 9, 13, 14, 15, 16, 41, 42, 43, 44, 45, 1023] rfl ?_
    refine sc_cond_t rfl ?_
    refine sc_seq ?_
    refine sc_draw [0, 1, 2, 3, 4, 5, 6, 7, 8, 9, 10, 11, 14, 12, 13, 15] [12] _ mixed (by kernel_rfl) (by kernel_rfl) (List.Subset.refl _) ?_
    iterate 2 refine drM rfl rfl rfl ?_
    refine dr_q rfl rfl (q_conv rfl Tryd.runUnderlying12 Tryd.runUnderlying2 rfl) ?_
    refine dr_q rfl rfl (q_add rfl rfl rfl) ?_
    refine drM rfl rfl rfl ?_
    refine dr_q rfl rfl (q_nil rfl) ?_
    refine dr_q rfl rfl (q_fieldj (j := 0) rfl Tryd.runUnderlying84 rfl Tryd.sizeOf78 rfl) ?_
    refine dr_q rfl rfl (q_fieldj (j := 4) rfl Tryd.runUnderlying78 rfl Tryd.sizeOf23 rfl) ?_
    refine dr_q rfl rfl (q_load1 rfl Tryd.isAgg23 (i := 2) rfl rfl) ?_
    refine dr_q rfl rfl (q_conv rfl Tryd.runUnderlying23 Tryd.runUnderlying2 rfl) ?_
    refine dr_q rfl rfl (q_iface rfl Tryd.runUnderlying2 rfl) ?_
    refine dr_q rfl rfl (q_build (vs := [(0, _), (1, _), (2, _)]) ⟨rfl, rfl, rfl, rfl, rfl, rfl, trivial⟩ b139) ?_
    refine drA rfl rfl rfl ?_
    refine dr_m rfl rfl (m_box rfl rfl) (fun _ _ p hp => List.mem_cons_of_mem _ hp) (fun _ _ => ?_)
    refine dr_q rfl rfl (q_iface rfl Tryd.runUnderlying137 rfl) ?_
    refine drA rfl rfl rfl ?_
    refine dr_nil ?_
    refine se_seq ?_
    refine scK [2, 3] rfl ?_
    refine sc_ret ?_
    refine se_then_ret ?_
    refine se_block_ret ?_
    iterate 2 refine se_then_ret ?_
    refine se_block_ret ?_
    refine se_then_ret ?_
    exact se_end (res2 Tryd.results22 rfl rfl) (fun w' hw => .inl ⟨hbad, ⟨_, _, _, rfl⟩, hw.eff⟩)
   have hpo : (srow bs i).off < 9223372036854775808 := by rw [wneg q5] at h174_6; omega
   refine sqK [0, 8, 9, 13, 14, 15, 16, 41, 42, 43, 44, 45, 1023] rfl ?_
   refine sc_cond_f rfl ?_
   refine scS ?_
   refine scK [0, 8, 9, 13, 14, 15, 16, 41, 42, 43, 44, 45] rfl ?_
   refine sc_seq ?_
   refine scR ?_
   refine sqM rfl rfl ?_
   refine sq_q (q_nil rfl) rfl ?_
   refine sq_q (q_fieldj (j := 0) rfl Tryd.runUnderlying84 rfl Tryd.sizeOf78 rfl) rfl ?_
   refine sq_q (q_fieldj (j := 10) rfl Tryd.runUnderlying78 rfl Tryd.sizeOf23 rfl) rfl ?_
   refine sq_q (q_load1 rfl Tryd.isAgg23 (i := 2) rfl rfl) rfl ?_
   refine sq_q (q_conv rfl Tryd.runUnderlying23 Tryd.runUnderlying2 rfl) rfl ?_
   refine sq_split (q_lss rfl rfl) rfl (fun h176_6 => ?_) (fun h176_6 => ?_)
   ·
    have hbad : ¬ Good bs := fun hg => by have h9 := (hg.ss i hin).2; rw [wneg q6] at h176_6; omega
    refine sqK [0, 8, 9, 13, 14, 15, 16, 41, 42, 43, 44, 45, 1044] rfl ?_
    refine sc_cond_t rfl ?_
    refine sc_seq ?_
    refine sc_draw [0, 1, 2, 3, 4, 5, 6, 7, 8, 9, 10, 11, 14, 12, 13, 15] [12] _ mixed (by kernel_rfl) (by kernel_rfl) (List.Subset.refl _) ?_
    iterate 2 refine drM rfl rfl rfl ?_
    refine dr_q rfl rfl (q_conv rfl Tryd.runUnderlying12 Tryd.runUnderlying2 rfl) ?_
    refine dr_q rfl rfl (q_add rfl rfl rfl) ?_
    refine drM rfl rfl rfl ?_
    refine dr_q rfl rfl (q_nil rfl) ?_
    refine dr_q rfl rfl (q_fieldj (j := 0) rfl Tryd.runUnderlying84 rfl Tryd.sizeOf78 rfl) ?_
    refine dr_q rfl rfl (q_fieldj (j := 10) rfl Tryd.runUnderlying78 rfl Tryd.sizeOf23 rfl) ?_
    refine dr_q rfl rfl (q_load1 rfl Tryd.isAgg23 (i := 2) rfl rfl) ?_
    refine dr_q rfl rfl (q_conv rfl Tryd.runUnderlying23 Tryd.runUnderlying2 rfl) ?_
    refine dr_q rfl rfl (q_iface rfl Tryd.runUnderlying2 rfl) ?_
    refine dr_q rfl rfl (q_build (vs := [(0, _), (1, _), (2, _)]) ⟨rfl, rfl, rfl, rfl, rfl, rfl, trivial⟩ b139) ?_
    refine drA rfl rfl rfl ?_
    refine dr_m rfl rfl (m_box rfl rfl) (fun _ _ p hp => List.mem_cons_of_mem _ hp) (fun _ _ => ?_)
    refine dr_q rfl rfl (q_iface rfl Tryd.runUnderlying137 rfl) ?_
    refine drA rfl rfl rfl ?_
    refine dr_nil ?_
    refine se_seq ?_
    refine scK [2, 3] rfl ?_
    refine sc_ret ?_
    refine se_then_ret ?_
    refine se_block_ret ?_
    iterate 2 refine se_then_ret ?_
    refine se_block_ret ?_
    refine se_then_ret ?_
    exact se_end (res2 Tryd.results22 rfl rfl) (fun w' hw => .inl ⟨hbad, ⟨_, _, _, rfl⟩, hw.eff⟩)
   have hpf : (srow bs i).size < 9223372036854775808 := by rw [wneg q6] at h176_6; omega
   have hcomp : Comp (srow bs i).flags = 0 := hplain i hin (all_le hi2 ⟨hpo, hpf⟩)
   refine sqK [0, 8, 9, 13, 14, 15, 16, 41, 42, 43, 44, 45, 1044] rfl ?_
   refine sc_cond_f rfl ?_
   refine scS ?_
   refine scK [0, 8, 9, 13, 14, 15, 16, 41, 42, 43, 45] rfl ?_
   refine sc_seq ?_
   refine sc_draw [0, 1, 2, 3, 4, 5, 6, 7, 8, 9, 10, 11, 12, 13, 14, 15, 16, 17] [14, 17] [(N, .cells [.string ⟨#[]⟩, .int .u32 (((srow bs i).type : Nat) : Int), .int .u32 (((srow bs i).flags : Nat) : Int), .int .u64 (((srow bs i).addr : Nat) : Int), .int .u64 (((srow bs i).off : Nat) : Int), .int .u64 0, .int .u32 (((srow bs i).link : Nat) : Int), .int .u32 (((srow bs i).info : Nat) : Int), .int .u64 (((srow bs i).align : Nat) : Int), .int .u64 (((srow bs i).ents : Nat) : Int), .int .u64 (((srow bs i).size : Nat) : Int), .nilIface, .pointer none, .int .i64 0, .int .i64 0].toArray 84 (0, 0))] mixed (by kernel_rfl) (by kernel_rfl) (fun _ h => by simp at h; simp [h]) ?_
   iterate 3 refine drM rfl rfl rfl ?_
   refine dr_q rfl rfl (q_nil rfl) ?_
   refine dr_q rfl rfl (q_fieldj (j := 0) rfl Tryd.runUnderlying84 rfl Tryd.sizeOf78 rfl) ?_
   refine dr_q rfl rfl (q_fieldj (j := 4) rfl Tryd.runUnderlying78 rfl Tryd.sizeOf23 rfl) ?_
   refine dr_q rfl rfl (q_load1 rfl Tryd.isAgg23 (i := 0) rfl rfl) ?_
   refine dr_q rfl rfl (q_conv rfl Tryd.runUnderlying23 Tryd.runUnderlying2 (w_i64 (by omega) (by omega))) ?_
   refine drM rfl rfl rfl ?_
   refine dr_q rfl rfl (q_nil rfl) ?_
   refine dr_q rfl rfl (q_fieldj (j := 0) rfl Tryd.runUnderlying84 rfl Tryd.sizeOf78 rfl) ?_
   refine dr_q rfl rfl (q_fieldj (j := 10) rfl Tryd.runUnderlying78 rfl Tryd.sizeOf23 rfl) ?_
   refine dr_q rfl rfl (q_load1 rfl Tryd.isAgg23 (i := 0) rfl rfl) ?_
   refine dr_q rfl rfl (q_conv rfl Tryd.runUnderlying23 Tryd.runUnderlying2 (w_i64 (by omega) (by omega))) ?_
   refine dr_m rfl rfl (new_inv (off := (srow bs i).off) (n := (srow bs i).size) (by omega) (by omega) rfl rfl rfl) (fun _ _ p hp => by simp at hp; simp [hp]) (fun _ _ => ?_)
   refine dr_q rfl rfl (q_nil rfl) ?_
   refine dr_q rfl rfl (q_fieldj (j := 12) rfl Tryd.runUnderlying84 rfl Tryd.sizeOf81 rfl) ?_
   refine dr_m0l rfl rfl ((m_store rfl rfl Tryd.sizeOf81 rfl (i := 3) rfl rfl rfl (by intro h; omega))) (by kernel_rfl) (fun _ _ => ?_)
   refine dr_nil ?_
   refine se_seq ?_
   refine scK [0, 8, 9, 13, 14, 15, 16, 41, 42, 43, 45] rfl ?_
   refine sc_seq ?_
   refine scR ?_
   refine sqM rfl rfl ?_
   refine sq_q (q_nil rfl) rfl ?_
   refine sq_q (q_fieldj (j := 0) rfl Tryd.runUnderlying84 rfl Tryd.sizeOf78 rfl) rfl ?_
   refine sq_q (q_fieldj (j := 2) rfl Tryd.runUnderlying78 rfl Tryd.sizeOf76 rfl) rfl ?_
   refine sq_q (q_load1 rfl Tryd.isAgg76 (i := 3) rfl rfl) rfl ?_
   refine sq_q (q_and rfl rfl hcomp) rfl ?_
   refine sq_q (q_decT (q_eql rfl rfl) (rfl)) rfl ?_
   refine sqK [0, 8, 9, 13, 14, 15, 16, 41, 42, 43, 45, 1082] rfl ?_
   refine sc_cond_t rfl ?_
   refine scR ?_
   iterate 2 refine sqM rfl rfl ?_
   refine sq_q (q_nil rfl) rfl ?_
   refine sq_q (q_fieldj (j := 12) rfl Tryd.runUnderlying84 rfl Tryd.sizeOf81 rfl) rfl ?_
   refine sq_q (q_load1 rfl Tryd.isAgg81 (i := 3) rfl rfl) rfl ?_
   refine sq_q (q_iface rfl Tryd.runUnderlying81 rfl) rfl ?_
   refine sq_q (q_nil rfl) rfl ?_
   refine sq_q (q_fieldj (j := 11) rfl Tryd.runUnderlying84 rfl Tryd.sizeOf80 rfl) rfl ?_
   refine sq_m0 ((m_store rfl rfl Tryd.sizeOf80 rfl (i := 3) rfl rfl rfl (by intro h; omega))) (fun _ _ => ?_)
   refine sqK [0, 8, 9, 13, 14, 15, 16, 41, 42, 43, 45] rfl ?_
   refine sc_region ?_
   iterate 2 refine sqM rfl rfl ?_
   refine sq_q (q_nil rfl) rfl ?_
   refine sq_q (q_fieldj (j := 0) rfl Tryd.runUnderlying84 rfl Tryd.sizeOf78 rfl) rfl ?_
   refine sq_q (q_fieldj (j := 10) rfl Tryd.runUnderlying78 rfl Tryd.sizeOf23 rfl) rfl ?_
   refine sq_q (q_load1 rfl Tryd.isAgg23 (i := 3) rfl rfl) rfl ?_
   refine sq_q (q_nil rfl) rfl ?_
   refine sq_q (q_fieldj (j := 0) rfl Tryd.runUnderlying84 rfl Tryd.sizeOf78 rfl) rfl ?_
   refine sq_q (q_fieldj (j := 5) rfl Tryd.runUnderlying78 rfl Tryd.sizeOf23 rfl) rfl ?_
   refine sq_m0 ((m_store rfl rfl Tryd.sizeOf23 rfl (i := 3) rfl rfl rfl (by intro h; omega))) (fun _ _ => ?_)
   refine sqK [0, 8, 9, 13, 14, 15, 16, 41, 42, 43, 45] rfl ?_
   refine sc_region ?_
   iterate 2 refine sqM rfl rfl ?_
   refine sq_q (q_nil rfl) rfl ?_
   refine sq_q (q_fieldj (j := 9) rfl Tryd.runUnderlying72 rfl Tryd.sizeOf67 rfl) rfl ?_
   refine sq_q (q_load1 rfl Tryd.isAgg67 (i := 7) rfl rfl) rfl ?_
   refine sqM rfl rfl ?_
   refine sq_m (m_lit (vs := [(0, _)]) ⟨rfl, rfl, trivial⟩ (e := 73) (l := [.pointer (some ⟨N, 0, none⟩)]) (fun w => by kernel_rfl)) rfl (fun _ _ => ?_)
   refine sq_m (m_app (j0 := 6) (j := 0) (i := Tryd.t73) (z := .pointer none) (n := i) (cap := cap) (xs := ptrs sf i) (pad := spad) (news := [.pointer (some ⟨N, 0, none⟩)]) rfl rfl rfl rfl rfl Tryd.underlying67 (by kernel_rfl) (by kernel_rfl) (by kernel_rfl) (by rw [ptrs_length, t73_size, Nat.mul_one]) (by rw [hi9, t73_size, Nat.mul_one]) hi7 hi8 (by rw [t73_size]; rfl) (by rw [t73_size]; simp) rfl (by omega) (by rw [t73_bytes]; omega) (by intro h; omega)) rfl (fun y2 hz => ?_)
   obtain ⟨hz1, hz2, hz3, hz4, hz5, hz6⟩ := hz
   refine sq_q (q_nil rfl) rfl ?_
   refine sq_q (q_fieldj (j := 9) rfl Tryd.runUnderlying72 rfl Tryd.sizeOf67 rfl) rfl ?_
   refine sq_m0 ((m_store rfl rfl Tryd.sizeOf67 rfl (i := 8) rfl rfl rfl (by intro h; omega))) (fun _ _ => ?_)
   refine sq_nil ?_
   refine se_block ?_
   refine se_seq ?_
   refine scK [0, 8, 9, 13, 14, 15, 16, 41, 42, 43] rfl ?_
   refine sc_region ?_
   refine sqM rfl rfl ?_
   refine sq_q (q_add rfl rfl (w_i64 (by omega) (by omega))) rfl ?_
   refine sqA rfl rfl ?_
   refine sq_nil ?_
   refine se_loop ⟨i + 1, y2.N, y.b, y.cap, y.pad, y2.b, y2.cap, y2.pad, fun j => if j = i then (N, y.N) else sf j⟩ (by dsimp only; omega) ⟨by dsimp only; omega, fun j hj => (by
    have hj2 : j < i ∨ j = i := by dsimp only at hj; omega
    rcases hj2 with hj2 | rfl
    ·
     exact hi2 j hj2
    ·
     exact ⟨hpo, hpf⟩), hy3, hy4, by rw [hy5, t74_size, Nat.mul_one], by rcases hy1 with hy1 | hy1 <;> dsimp only <;> omega, hz3, hz4, by rw [hz5, t73_size, Nat.mul_one], by rcases hz1 with hz1 | hz1 <;> dsimp only <;> omega, fun j hj => (by
    have hj2 : j < i ∨ j = i := by dsimp only at hj; omega
    dsimp only
    rcases hj2 with hj2 | rfl
    ·
     rw [if_neg (by omega)]; exact hi11 j hj2
    ·
     rw [if_pos rfl]; exact ⟨hge2, by dsimp only; omega⟩)⟩ ⟨rfl, rfl, rfl, rfl, rfl, rfl, rfl, rfl, rfl, rfl, trivial⟩ (fun w h => ?_)
   refine h.cast_mm ?_
   dsimp only
   rw [smem_next, ptrs_next, nmL_succ]
   simp only [List.cons_append, List.append_assoc, List.nil_append]
   exact perm_sec
  refine sqK [0, 8, 9, 13, 14, 15, 16, 41, 42, 43, 859] rfl ?_
  refine sc_cond_f rfl ?_
  refine sc_exit ?_
  iterate 2 refine se_then_exit ?_
  refine se_block_hit ?_
  refine se_seq ?_
  iterate 2 refine scK [8, 13, 14, 16, 41] rfl ?_
  have hdone : i = (hd bs).shnum := by omega
  subst hdone
  refine sc_mem (fun _ h => h.sublist (.cons _ (.cons_cons _ (.cons_cons _ (.cons_cons _ (.cons_cons _ (.cons _ (List.Sublist.refl _)))))))) ?_
  exact hG _ _ _ _ _ _ _ _ _ _ _ _ _ _ ⟨hhead, hpr.pcut, hpr.ps, hne ▸ hcut, hi2⟩ hbig hfp hi11 hi10 hpb hpf0
 have hbad := m2_cut hmode hc3 hcut
 refine sqK [0, 8, 9, 13, 14, 15, 16, 37, 41, 42] rfl ?_
 refine sc_seq ?_
 refine scR ?_
 refine sqM rfl rfl ?_
 refine sq_q (q_iface_neq_nil rfl rfl Tryd.runUnderlying86) rfl ?_
 refine sqK [0, 8, 9, 13, 14, 15, 16, 37, 41, 42, 855] rfl ?_
 refine sc_cond_t rfl ?_
 refine scR ?_
 refine sqM rfl rfl ?_
 iterate 2 refine sqA rfl rfl ?_
 refine sqK [2, 3] rfl ?_
 refine sc_ret ?_
 refine se_then_ret ?_
 exact se_end (res2 Tryd.results22 rfl rfl) (fun w' hw => .inl ⟨hbad, ⟨_, _, _, rfl⟩, hw.eff⟩)

theorem nf_f2_true {g gu : Gx} {bs : List UInt8} {u : Value} {ms : MM} {w0 : World} (cx : Cx g gu bs u ms w0) (hG : StG g gu bs u ms w0) : ∀ (big : Bool) (fp sb cur N pb pcap : Nat) (shn nms : Int) (f : Nat → Nat × Nat) (pad : List Value), ∀ (c k : Nat), PrOk bs → isBig bs = big → isWide bs = true → w0.heap.size ≤ fp → w0.heap.size ≤ sb → Mode2 bs shn nms → IntKind.u64.wrap shn = c → c < 9223372036854775808 → 0 ≤ shn ∧ (c : Int) = shn → c * (hd bs).shes < 18446744073709551616 → k ≤ 1310720 → (0 < shn → 64 ≤ (hd bs).shes) → w0.heap.size ≤ pb → (∀ j, j < (hd bs).phnum → w0.heap.size ≤ (f j).1 ∧ w0.heap.size ≤ (f j).2) →
 Sc Tryd.prog r40 (bodyPost Tryd.prog Tryd.f22 (NF bs u ((1, g.o) :: (0, gu.o) :: ms) w0)) 1287 w0 E0 [(0, .iface 117 u), (4, .pointer (some ⟨sb, 0, none⟩)), (8, .pointer (some ⟨fp, 0, none⟩)), (9, .int .u8 (ordN big)), (13, .int .i64 ((hd bs).shoff : Int)), (14, .int .i64 ((hd bs).shes : Int)), (15, .int .i64 shn), (16, .int .i64 nms), (35, .int .i64 (k : Int))] N
  ((pb, .cells (ptrs f (hd bs).phnum ++ pad).toArray 89 (0, 0)) :: (fp, fileO bs big (hd bs).type (hd bs).machine (hd bs).entry (.slice none 0 0) (.slice (some ⟨pb, 0, none⟩) (hd bs).phnum pcap)) :: (sb, srO (.iface 117 u) 0 cur (limOf 0 9223372036854775807) (.int .i64 (9223372036854775807 : Nat))) :: (1, g.o) :: (0, gu.o) :: (pmem bs u f (hd bs).phnum ++ ms)) := by
 intro big fp sb cur N pb pcap shn nms f pad c k hpr hbig hwd hfp hsb hmode hc1 hc4 hc5 hmul hk hesl hpb hpf0
 have hc3 : (0 ≤ shn ∧ (c : Int) = shn) ∨ (shn < 0 ∧ 9223372036854775808 ≤ c) := .inl hc5
 have c4 : bv bs 4 = 2 := by have := hpr.chk.rd.id.cls; simp [isWide] at hwd; omega
 have blen := cx.len
 have hsh := hpr.chk.sh
 have hwd2 : wd true 40 64 = 64 := rfl
 obtain ⟨hl1, hl2, hl3, hl4, hl5, hl6, hl7, hl8, hl9, hl10, hl11⟩ := hd_lt bs
 refine sc_known fun hnd0 hge0 hlt0 => ?_
 refine scR ?_
 iterate 2 refine sqM rfl rfl ?_
 refine sq_m (m_make (kl := .i64) (kc := .i64) (len := 0) (cap := k) (i := Tryd.t73) (z := .pointer none) rfl rfl Tryd.underlying67 (by kernel_rfl) (by kernel_rfl) (by kernel_rfl) rfl (Nat.zero_le _) (mk73 (by omega)) (by omega)) rfl (fun _ _ => ?_)
 refine sq_q (q_nil rfl) rfl ?_
 refine sq_q (q_fieldj (j := 9) rfl Tryd.runUnderlying72 rfl Tryd.sizeOf67 rfl) rfl ?_
 refine sq_m0 ((m_store rfl rfl Tryd.sizeOf67 rfl (i := 2) rfl rfl rfl (by intro h; omega))) (fun _ _ => ?_)
 refine sqKR [0, 4, 8, 9, 13, 14, 15, 16, 35] rfl ?_
 refine sqM rfl rfl ?_
 refine sq_m (m_make (kl := .i64) (kc := .i64) (len := 0) (cap := k) (i := Tryd.t74) (z := .int .u32 0) rfl rfl Tryd.underlying155 (by kernel_rfl) (by kernel_rfl) (by kernel_rfl) rfl (Nat.zero_le _) (mk74 (by omega)) (by omega)) rfl (fun _ _ => ?_)
 refine sqA rfl rfl ?_
 refine sqKR [0, 4, 8, 9, 13, 14, 15, 16, 41] rfl ?_
 refine sqM rfl rfl ?_
 refine sq_q (q_iface rfl Tryd.runUnderlying81 rfl) rfl ?_
 refine sqM rfl rfl ?_
 refine sq_q (q_conv rfl Tryd.runUnderlying3 Tryd.runUnderlying23 hc1) rfl ?_
 refine sqM rfl rfl ?_
 refine sq_q (q_conv rfl Tryd.runUnderlying3 Tryd.runUnderlying23 (w_u64 (by omega) (by omega))) rfl ?_
 refine sq_q (q_mul (a := (c : Int)) (b := ((hd bs).shes : Int)) (r := ((c * (hd bs).shes : Nat) : Int)) rfl rfl (w_u64e (by rw [Int.natCast_mul]) (by omega) (by omega))) rfl ?_
 refine sqM rfl rfl ?_
 refine sq_known fun hnd1 hge1 hlt1 => ?_
 refine sq_m (rda_inv (gu := gu) (ms := (sb, srO (.iface 117 u) 0 cur (limOf 0 9223372036854775807) (.int .i64 (9223372036854775807 : Nat))) :: ms) (rc_all cx.rc cx.len (nd_sr4 hnd1)) (by omega) cx.len (by omega) (sub_sr4 _ _ _ _ (fun p hp => List.mem_append_right _ hp)) (by simp) (by simp) rfl rfl rfl) rfl (fun q9 hq9 => ?_)
 refine sqM rfl rfl ?_
 iterate 2 refine sq_q (q_extract rfl rfl) rfl ?_
 iterate 2 refine sqA rfl rfl ?_
 obtain ⟨v0, v1, nn, N2⟩ := q9
 dsimp only at hq9
 rcases hq9 with ⟨hcut, db, hdb, rfl, rfl, rfl, hN2⟩ | ⟨hcut, rfl, ⟨t2, u2, rfl⟩, rfl, hN2⟩
 ·
  obtain ⟨rfl, rfl, rfl, hzero⟩ := m2_next hmode hc3 hc4 hcut cx.len (fun h => by have := hesl h; omega)
  refine sqK [0, 8, 9, 13, 14, 15, 16, 37, 41, 42] rfl ?_
  refine sc_seq ?_
  refine scR ?_
  refine sqM rfl rfl ?_
  refine sq_q (q_nil_neq_nil rfl Tryd.runUnderlying86) rfl ?_
  refine sqK [0, 8, 9, 13, 14, 15, 16, 37, 41, 42, 855] rfl ?_
  refine sc_cond_f rfl ?_
  refine scS ?_
  refine scK [0, 8, 9, 13, 14, 15, 16, 41, 42] rfl ?_
  refine sc_seq ?_
  refine scR ?_
  refine sqA rfl rfl ?_
  refine sqZ ?_
  refine sc_block ?_
  have hhead : HeadOk bs := ⟨hpr.chk.rd.id.len, hpr.chk.rd.id.m0, hpr.chk.rd.id.m1, hpr.chk.rd.id.m2, hpr.chk.rd.id.m3, hpr.chk.rd.id.cls, hpr.chk.rd.id.dat, hpr.chk.rd.id.ver, hpr.chk.rd.size, hpr.chk.rd.ver4, hpr.chk.ph, hpr.chk.sh, ⟨hpr.chk.zero, hzero⟩, hpr.chk.nm, hpr.chk.phe, by rw [hwd]; show _ → 64 ≤ _; omega⟩
  have hplain := cx.plain hhead hpr.pcut hpr.ps hcut
  have hes0 : 0 < (hd bs).shnum → 64 ≤ (hd bs).shes := by omega
  generalize hne : (hd bs).shnum * (hd bs).shes = n at *
  refine sc_loop (ι := SL) (fun z => [(0, .iface 117 u), (8, .pointer (some ⟨fp, 0, none⟩)), (9, .int .u8 (ordN big)), (13, .int .i64 ((hd bs).shoff : Int)), (14, .int .i64 ((hd bs).shes : Int)), (15, .int .i64 ((hd bs).shnum : Int)), (16, .int .i64 ((hd bs).names : Int)), (41, .slice (some ⟨z.nb, 0, none⟩) z.i z.ncap), (42, .slice (some ⟨db, 0, none⟩) n n), (43, .int .i64 (z.i : Int))]) (fun z => z.N) (fun z => (db, .cells ((cut bs (hd bs).shoff n).map u8v).toArray 5 (0, 0)) :: (z.nb, .cells (nmL bs z.i ++ z.npad).toArray 74 (0, 0)) :: (z.cb, .cells (ptrs z.sf z.i ++ z.spad).toArray 73 (0, 0)) :: (pb, .cells (ptrs f (hd bs).phnum ++ pad).toArray 89 (0, 0)) :: (fp, fileO bs big (hd bs).type (hd bs).machine (hd bs).entry (.slice (some ⟨z.cb, 0, none⟩) z.i z.cap) (.slice (some ⟨pb, 0, none⟩) (hd bs).phnum pcap)) :: (sb, srO (.iface 117 u) 0 cur (limOf 0 9223372036854775807) (.int .i64 (9223372036854775807 : Nat))) :: (1, g.o) :: (0, gu.o) :: (smem bs u (fun _ => []) z.sf z.i ++ (pmem bs u f (hd bs).phnum ++ ms))) (SLF bs w0) (fun z => (hd bs).shnum - z.i) ⟨0, N2, N + 1, k, List.replicate k (.int .u32 0), N, k, List.replicate k (.pointer none), fun _ => (0, 0)⟩ ⟨⟨by simp, fun j hj => absurd hj (Nat.not_lt_zero _), by simp, by simp only [maxLen]; omega, by simp, by dsimp only; omega, by simp, by simp only [maxLen]; omega, by simp, hge0, fun j hj => absurd hj (Nat.not_lt_zero _)⟩, ⟨rfl, rfl, rfl, rfl, rfl, rfl, rfl, rfl, rfl, rfl, trivial⟩, rfl, fun _ h => h⟩ ?_
  rintro ⟨i, N, nb, ncap, npad, cb, cap, spad, sf⟩ ⟨hi1, hi2, hi3, hi4, hi5, hi6, hi7, hi8, hi9, hi10, hi11⟩
  dsimp only at hi1 hi2 hi3 hi4 hi5 hi6 hi7 hi8 hi9 hi10 hi11
  have hi12 : cap ≤ 9223372036854775807 := hi8
  have hi13 : ncap ≤ 9223372036854775807 := hi4
  change Sc _ _ _ _ _ _ [(0, .iface 117 u), (8, .pointer (some ⟨fp, 0, none⟩)), (9, .int .u8 (ordN big)), (13, .int .i64 ((hd bs).shoff : Int)), (14, .int .i64 ((hd bs).shes : Int)), (15, .int .i64 ((hd bs).shnum : Int)), (16, .int .i64 ((hd bs).names : Int)), (41, .slice (some ⟨nb, 0, none⟩) i ncap), (42, .slice (some ⟨db, 0, none⟩) n n), (43, .int .i64 (i : Int))] N ((db, .cells ((cut bs (hd bs).shoff n).map u8v).toArray 5 (0, 0)) :: (nb, .cells (nmL bs i ++ npad).toArray 74 (0, 0)) :: (cb, .cells (ptrs sf i ++ spad).toArray 73 (0, 0)) :: (pb, .cells (ptrs f (hd bs).phnum ++ pad).toArray 89 (0, 0)) :: (fp, fileO bs big (hd bs).type (hd bs).machine (hd bs).entry (.slice (some ⟨cb, 0, none⟩) i cap) (.slice (some ⟨pb, 0, none⟩) (hd bs).phnum pcap)) :: (sb, srO (.iface 117 u) 0 cur (limOf 0 9223372036854775807) (.int .i64 (9223372036854775807 : Nat))) :: (1, g.o) :: (0, gu.o) :: (smem bs u (fun _ => []) sf i ++ (pmem bs u f (hd bs).phnum ++ ms)))
  refine sc_known fun hnd2 hge2 hlt2 => ?_
  refine sc_seq ?_
  refine scR ?_
  iterate 2 refine sqM rfl rfl ?_
  refine sq_split (q_lss rfl rfl) rfl (fun h163_2 => ?_) (fun h163_2 => ?_)
  ·
   have hin : i < (hd bs).shnum := by omega
   have hes : 64 ≤ (hd bs).shes := hes0 (by omega)
   obtain ⟨o, ho⟩ : ∃ o, o = i * (hd bs).shes := ⟨_, rfl⟩
   have hfit := row_fit hin ho
   rw [hne] at hfit
   have e_name : fld big bs ((hd bs).shoff + (o + 0)) 4 = (srow bs i).name := by simp [srow, srowAt, hwd, hbig, ho, Nat.add_assoc]
   have e_type : fld big bs ((hd bs).shoff + (o + 4)) 4 = (srow bs i).type := by simp [srow, srowAt, hwd, hbig, ho, Nat.add_assoc]
   obtain ⟨fl, e_flags⟩ : ∃ fl, fld big bs ((hd bs).shoff + (o + 8)) 8 = fl := ⟨_, rfl⟩
   have hfl2 : fl % 4294967296 = (srow bs i).flags := by rw [← e_flags]; simp [srow, srowAt, hwd, hbig, ho, Nat.add_assoc]
   have e_off : fld big bs ((hd bs).shoff + (o + 24)) 8 = (srow bs i).off := by simp [srow, srowAt, hwd, hbig, ho, Nat.add_assoc]
   have e_size : fld big bs ((hd bs).shoff + (o + 32)) 8 = (srow bs i).size := by simp [srow, srowAt, hwd, hbig, ho, Nat.add_assoc]
   have e_addr : fld big bs ((hd bs).shoff + (o + 16)) 8 = (srow bs i).addr := by simp [srow, srowAt, hwd, hbig, ho, Nat.add_assoc]
   have e_link : fld big bs ((hd bs).shoff + (o + 40)) 4 = (srow bs i).link := by simp [srow, srowAt, hwd, hbig, ho, Nat.add_assoc]
   have e_info : fld big bs ((hd bs).shoff + (o + 44)) 4 = (srow bs i).info := by simp [srow, srowAt, hwd, hbig, ho, Nat.add_assoc]
   have e_align : fld big bs ((hd bs).shoff + (o + 48)) 8 = (srow bs i).align := by simp [srow, srowAt, hwd, hbig, ho, Nat.add_assoc]
   have e_ents : fld big bs ((hd bs).shoff + (o + 56)) 8 = (srow bs i).ents := by simp [srow, srowAt, hwd, hbig, ho, Nat.add_assoc]
   have slt : (srow bs i).Lt := srowAt_lt _ _ _ _
   obtain ⟨q1, q2, q3, q4, q5, q6, q7, q8, q9, q10⟩ := slt
   refine sqK [0, 8, 9, 13, 14, 15, 16, 41, 42, 43, 859] rfl ?_
   refine sc_cond_t rfl ?_
   refine scS ?_
   refine scK [0, 8, 9, 13, 14, 15, 16, 41, 42, 43] rfl ?_
   refine sc_seq ?_
   refine sc_block ?_
   refine scR ?_
   refine sqM rfl rfl ?_
   refine sq_q (q_conv rfl Tryd.runUnderlying3 Tryd.runUnderlying12 (w_u64 (by omega) (by omega))) rfl ?_
   refine sqM rfl rfl ?_
   refine sq_q (q_conv rfl Tryd.runUnderlying3 Tryd.runUnderlying12 (w_u64 (by omega) (by omega))) rfl ?_
   refine sq_q (q_mul (a := (i : Int)) (b := ((hd bs).shes : Int)) (r := ((o : Nat) : Int)) rfl rfl (w_u64e (by rw [ho, Int.natCast_mul]) (by omega) (by omega))) rfl ?_
   refine sqA rfl rfl ?_
   refine sqKR [0, 8, 9, 13, 14, 15, 16, 41, 42, 43, 44] rfl ?_
   refine sq_m (m_alloc (l := [.string ⟨#[]⟩, .int .u32 0, .int .u32 0, .int .u64 0, .int .u64 0, .int .u64 0, .int .u32 0, .int .u32 0, .int .u64 0, .int .u64 0, .int .u64 0, .nilIface, .pointer none, .int .i64 0, .int .i64 0]) Tryd.zeroValue84 rfl) rfl (fun _ _ => ?_)
   refine sqA rfl rfl ?_
   refine sqK [0, 8, 9, 13, 14, 15, 16, 41, 42, 43, 44, 45] rfl ?_
   refine sc_seq ?_
   refine scR ?_
   refine sqM rfl rfl ?_
   refine sq_q (q_nil rfl) rfl ?_
   refine sq_q (q_fieldj (j := 0) rfl Tryd.runUnderlying72 rfl Tryd.sizeOf66 rfl) rfl ?_
   refine sq_q (q_fieldj (j := 0) rfl Tryd.runUnderlying66 rfl Tryd.sizeOf57 rfl) rfl ?_
   refine sq_q (q_load1 rfl Tryd.isAgg57 (i := 5) rfl rfl) rfl ?_
   refine sqK [0, 8, 9, 13, 14, 15, 16, 41, 42, 43, 44, 45, 872] rfl ?_
   refine sc_block ?_
   refine scR ?_
   refine sq_q (q_decF (q_eql rfl rfl) (by omega)) rfl ?_
   refine sqA rfl rfl ?_
   refine sqK [0, 8, 9, 13, 14, 15, 16, 41, 42, 43, 44, 45, 872, 873] rfl ?_
   refine sc_cond_f rfl ?_
   refine scR ?_
   refine sq_q (q_decT (q_eql rfl rfl) (by omega)) rfl ?_
   refine sqA rfl rfl ?_
   refine sqK [0, 8, 9, 13, 14, 15, 16, 41, 42, 43, 44, 45, 947] rfl ?_
   refine sc_cond_t rfl ?_
   refine scR ?_
   iterate 4 refine sqM rfl rfl ?_
   refine sq_q (q_add (a := (o : Int)) (b := (0 : Int)) (r := ((o + 0 : Nat) : Int)) rfl rfl (w_u64e (by omega) (by omega) (by omega))) rfl ?_
   refine sq_q (q_slice_k (l := o + 0) (j := o + 0) rfl rfl Tryd.runUnderlying22 Tryd.sizeOf5 (by omega) (by omega) (by omega)) rfl ?_
   refine sq_q (q_call (v := .int .u32 (((srow bs i).name : Nat) : Int)) (args2 rfl rfl) Tryd.call35 (fun w9 hw => tb32 e_name hcut (by omega) (by omega) (by omega) (hw.get (i := 1) rfl))) rfl ?_
   refine sq_m (m_lit (vs := [(0, _)]) ⟨rfl, rfl, trivial⟩ (e := 74) (l := [.int .u32 (((srow bs i).name : Nat) : Int)]) (fun w => by kernel_rfl)) rfl (fun _ _ => ?_)
   refine sq_m (m_app (j0 := 3) (j := 0) (i := Tryd.t74) (z := .int .u32 0) (n := i) (cap := ncap) (xs := nmL bs i) (pad := npad) (news := [.int .u32 (((srow bs i).name : Nat) : Int)]) rfl rfl rfl rfl rfl Tryd.underlying155 (by kernel_rfl) (by kernel_rfl) (by kernel_rfl) (by rw [nmL_length, t74_size, Nat.mul_one]) (by rw [hi5, t74_size, Nat.mul_one]) hi3 hi4 (by rw [t74_size]; rfl) (by rw [t74_size]; simp) rfl (by omega) (by rw [t74_bytes]; omega) (by intro h; omega)) rfl (fun y hy => ?_)
   obtain ⟨hy1, hy2, hy3, hy4, hy5, hy6⟩ := hy
   refine sqA rfl rfl ?_
   refine sqK [0, 8, 9, 13, 14, 15, 16, 41, 42, 43, 44, 45] rfl ?_
   refine sc_draw [0, 1, 2, 3, 4, 5, 6, 7, 8, 9, 10, 11, 12, 13, 14, 15, 16, 17, 18, 19, 20, 21, 22, 23, 24, 25, 26, 27, 28, 29, 30, 31, 32, 33, 34, 35, 36, 37, 38, 39, 40, 41, 42, 43, 44, 45, 46, 47, 48, 49, 50, 51, 52, 53, 54, 55, 56, 57, 58, 59] [59] [(db, .cells ((cut bs (hd bs).shoff n).map u8v).toArray 5 (0, 0))] mixed (by kernel_rfl) (by kernel_rfl) (fun _ h => by simp at h; simp [h]) ?_
   iterate 4 refine drM rfl rfl rfl ?_
   refine dr_q rfl rfl (q_add (a := (o : Int)) (b := (4 : Int)) (r := ((o + 4 : Nat) : Int)) rfl rfl (w_u64e (by omega) (by omega) (by omega))) ?_
   refine dr_q rfl rfl (q_slice_k (l := o + 4) (j := o + 4) rfl rfl Tryd.runUnderlying22 Tryd.sizeOf5 (by omega) (by omega) (by omega)) ?_
   refine dr_q rfl rfl (q_call (v := .int .u32 (((srow bs i).type : Nat) : Int)) (args2 rfl rfl) Tryd.call35 (fun w9 hw => tb32 e_type hcut (by omega) (by omega) (by omega) (hw.get (i := 0) rfl))) ?_
   iterate 3 refine drM rfl rfl rfl ?_
   refine dr_q rfl rfl (q_add (a := (o : Int)) (b := (8 : Int)) (r := ((o + 8 : Nat) : Int)) rfl rfl (w_u64e (by omega) (by omega) (by omega))) ?_
   refine dr_q rfl rfl (q_slice_k (l := o + 8) (j := o + 8) rfl rfl Tryd.runUnderlying22 Tryd.sizeOf5 (by omega) (by omega) (by omega)) ?_
   refine dr_q rfl rfl (q_call (v := .int .u64 ((fl : Nat) : Int)) (args2 rfl rfl) Tryd.call36 (fun w9 hw => tb64 e_flags hcut (by omega) (by omega) (by omega) (hw.get (i := 0) rfl))) ?_
   refine dr_q rfl rfl (q_conv (r := (((srow bs i).flags : Nat) : Int)) rfl Tryd.runUnderlying23 Tryd.runUnderlying76 (by rw [m_u32, ← hfl2]; omega)) ?_
   iterate 3 refine drM rfl rfl rfl ?_
   refine dr_q rfl rfl (q_add (a := (o : Int)) (b := (24 : Int)) (r := ((o + 24 : Nat) : Int)) rfl rfl (w_u64e (by omega) (by omega) (by omega))) ?_
   refine dr_q rfl rfl (q_slice_k (l := o + 24) (j := o + 24) rfl rfl Tryd.runUnderlying22 Tryd.sizeOf5 (by omega) (by omega) (by omega)) ?_
   refine dr_q rfl rfl (q_call (v := .int .u64 (((srow bs i).off : Nat) : Int)) (args2 rfl rfl) Tryd.call36 (fun w9 hw => tb64 e_off hcut (by omega) (by omega) (by omega) (hw.get (i := 0) rfl))) ?_
   iterate 3 refine drM rfl rfl rfl ?_
   refine dr_q rfl rfl (q_add (a := (o : Int)) (b := (32 : Int)) (r := ((o + 32 : Nat) : Int)) rfl rfl (w_u64e (by omega) (by omega) (by omega))) ?_
   refine dr_q rfl rfl (q_slice_k (l := o + 32) (j := o + 32) rfl rfl Tryd.runUnderlying22 Tryd.sizeOf5 (by omega) (by omega) (by omega)) ?_
   refine dr_q rfl rfl (q_call (v := .int .u64 (((srow bs i).size : Nat) : Int)) (args2 rfl rfl) Tryd.call36 (fun w9 hw => tb64 e_size hcut (by omega) (by omega) (by omega) (hw.get (i := 0) rfl))) ?_
   iterate 3 refine drM rfl rfl rfl ?_
   refine dr_q rfl rfl (q_add (a := (o : Int)) (b := (16 : Int)) (r := ((o + 16 : Nat) : Int)) rfl rfl (w_u64e (by omega) (by omega) (by omega))) ?_
   refine dr_q rfl rfl (q_slice_k (l := o + 16) (j := o + 16) rfl rfl Tryd.runUnderlying22 Tryd.sizeOf5 (by omega) (by omega) (by omega)) ?_
   refine dr_q rfl rfl (q_call (v := .int .u64 (((srow bs i).addr : Nat) : Int)) (args2 rfl rfl) Tryd.call36 (fun w9 hw => tb64 e_addr hcut (by omega) (by omega) (by omega) (hw.get (i := 0) rfl))) ?_
   iterate 3 refine drM rfl rfl rfl ?_
   refine dr_q rfl rfl (q_add (a := (o : Int)) (b := (40 : Int)) (r := ((o + 40 : Nat) : Int)) rfl rfl (w_u64e (by omega) (by omega) (by omega))) ?_
   refine dr_q rfl rfl (q_slice_k (l := o + 40) (j := o + 40) rfl rfl Tryd.runUnderlying22 Tryd.sizeOf5 (by omega) (by omega) (by omega)) ?_
   refine dr_q rfl rfl (q_call (v := .int .u32 (((srow bs i).link : Nat) : Int)) (args2 rfl rfl) Tryd.call35 (fun w9 hw => tb32 e_link hcut (by omega) (by omega) (by omega) (hw.get (i := 0) rfl))) ?_
   iterate 3 refine drM rfl rfl rfl ?_
   refine dr_q rfl rfl (q_add (a := (o : Int)) (b := (44 : Int)) (r := ((o + 44 : Nat) : Int)) rfl rfl (w_u64e (by omega) (by omega) (by omega))) ?_
   refine dr_q rfl rfl (q_slice_k (l := o + 44) (j := o + 44) rfl rfl Tryd.runUnderlying22 Tryd.sizeOf5 (by omega) (by omega) (by omega)) ?_
   refine dr_q rfl rfl (q_call (v := .int .u32 (((srow bs i).info : Nat) : Int)) (args2 rfl rfl) Tryd.call35 (fun w9 hw => tb32 e_info hcut (by omega) (by omega) (by omega) (hw.get (i := 0) rfl))) ?_
   iterate 3 refine drM rfl rfl rfl ?_
   refine dr_q rfl rfl (q_add (a := (o : Int)) (b := (48 : Int)) (r := ((o + 48 : Nat) : Int)) rfl rfl (w_u64e (by omega) (by omega) (by omega))) ?_
   refine dr_q rfl rfl (q_slice_k (l := o + 48) (j := o + 48) rfl rfl Tryd.runUnderlying22 Tryd.sizeOf5 (by omega) (by omega) (by omega)) ?_
   refine dr_q rfl rfl (q_call (v := .int .u64 (((srow bs i).align : Nat) : Int)) (args2 rfl rfl) Tryd.call36 (fun w9 hw => tb64 e_align hcut (by omega) (by omega) (by omega) (hw.get (i := 0) rfl))) ?_
   iterate 3 refine drM rfl rfl rfl ?_
   refine dr_q rfl rfl (q_add (a := (o : Int)) (b := (56 : Int)) (r := ((o + 56 : Nat) : Int)) rfl rfl (w_u64e (by omega) (by omega) (by omega))) ?_
   refine dr_q rfl rfl (q_slice_k (l := o + 56) (j := o + 56) rfl rfl Tryd.runUnderlying22 Tryd.sizeOf5 (by omega) (by omega) (by omega)) ?_
   refine dr_q rfl rfl (q_call (v := .int .u64 (((srow bs i).ents : Nat) : Int)) (args2 rfl rfl) Tryd.call36 (fun w9 hw => tb64 e_ents hcut (by omega) (by omega) (by omega) (hw.get (i := 0) rfl))) ?_
   refine dr_q rfl rfl (q_build (vs := [(1, .int .u32 (((srow bs i).type : Nat) : Int)), (2, .int .u32 (((srow bs i).flags : Nat) : Int)), (4, .int .u64 (((srow bs i).off : Nat) : Int)), (10, .int .u64 (((srow bs i).size : Nat) : Int)), (3, .int .u64 (((srow bs i).addr : Nat) : Int)), (6, .int .u32 (((srow bs i).link : Nat) : Int)), (7, .int .u32 (((srow bs i).info : Nat) : Int)), (8, .int .u64 (((srow bs i).align : Nat) : Int)), (9, .int .u64 (((srow bs i).ents : Nat) : Int))]) (cs := #[.string ⟨#[]⟩, .int .u32 (((srow bs i).type : Nat) : Int), .int .u32 (((srow bs i).flags : Nat) : Int), .int .u64 (((srow bs i).addr : Nat) : Int), .int .u64 (((srow bs i).off : Nat) : Int), .int .u64 0, .int .u32 (((srow bs i).link : Nat) : Int), .int .u32 (((srow bs i).info : Nat) : Int), .int .u64 (((srow bs i).align : Nat) : Int), .int .u64 (((srow bs i).ents : Nat) : Int), .int .u64 (((srow bs i).size : Nat) : Int)]) ⟨rfl, rfl, rfl, rfl, rfl, rfl, rfl, rfl, rfl, rfl, rfl, rfl, rfl, rfl, rfl, rfl, rfl, rfl, trivial⟩ (fun _ => by kernel_rfl)) ?_
   refine dr_q rfl rfl (q_nil rfl) ?_
   refine dr_q rfl rfl (q_fieldj (j := 0) rfl Tryd.runUnderlying84 rfl Tryd.sizeOf78 rfl) ?_
   refine dr_m0 rfl rfl (m_stores (i := 2) (vs := [.string ⟨#[]⟩, .int .u32 (((srow bs i).type : Nat) : Int), .int .u32 (((srow bs i).flags : Nat) : Int), .int .u64 (((srow bs i).addr : Nat) : Int), .int .u64 (((srow bs i).off : Nat) : Int), .int .u64 0, .int .u32 (((srow bs i).link : Nat) : Int), .int .u32 (((srow bs i).info : Nat) : Int), .int .u64 (((srow bs i).align : Nat) : Int), .int .u64 (((srow bs i).ents : Nat) : Int), .int .u64 (((srow bs i).size : Nat) : Int)]) (l' := [.string ⟨#[]⟩, .int .u32 (((srow bs i).type : Nat) : Int), .int .u32 (((srow bs i).flags : Nat) : Int), .int .u64 (((srow bs i).addr : Nat) : Int), .int .u64 (((srow bs i).off : Nat) : Int), .int .u64 0, .int .u32 (((srow bs i).link : Nat) : Int), .int .u32 (((srow bs i).info : Nat) : Int), .int .u64 (((srow bs i).align : Nat) : Int), .int .u64 (((srow bs i).ents : Nat) : Int), .int .u64 (((srow bs i).size : Nat) : Int), .nilIface, .pointer none, .int .i64 0, .int .i64 0]) rfl rfl Tryd.sizeOf78 rfl rfl rfl (by simp) rfl rfl (by intro h; omega)) (fun _ _ p hp => by simp at hp; simp [hp]) (fun _ _ => ?_)
   refine dr_nil ?_
   refine se_block ?_
   refine se_seq ?_
   refine scK [0, 8, 9, 13, 14, 15, 16, 41, 42, 43, 44, 45] rfl ?_
   refine sc_seq ?_
   refine scR ?_
   refine sqM rfl rfl ?_
   refine sq_q (q_nil rfl) rfl ?_
   refine sq_q (q_fieldj (j := 0) rfl Tryd.runUnderlying84 rfl Tryd.sizeOf78 rfl) rfl ?_
   refine sq_q (q_fieldj (j := 4) rfl Tryd.runUnderlying78 rfl Tryd.sizeOf23 rfl) rfl ?_
   refine sq_q (q_load1 rfl Tryd.isAgg23 (i := 2) rfl rfl) rfl ?_
   refine sq_q (q_conv rfl Tryd.runUnderlying23 Tryd.runUnderlying2 rfl) rfl ?_
   refine sq_split (q_lss rfl rfl) rfl (fun h174_6 => ?_) (fun h174_6 => ?_)
   ·
    have hbad : ¬ Good bs := fun hg => by have h9 := (hg.ss i hin).1; rw [wneg q5] at h174_6; omega
    refine sqK [0, 8, 9, 13, 14, 15, 16, 41, 42, 43, 44, 45, 1023] rfl ?_
    refine sc_cond_t rfl ?_
    refine sc_seq ?_
    refine sc_draw [0, 1, 2, 3, 4, 5, 6, 7, 8, 9, 10, 11, 14, 12, 13, 15] [12] _ mixed (by kernel_rfl) (by kernel_rfl) (List.Subset.refl _) ?_
    iterate 2 refine drM rfl rfl rfl ?_
    refine dr_q rfl rfl (q_conv rfl Tryd.runUnderlying12 Tryd.runUnderlying2 rfl) ?_
    refine dr_q rfl rfl (q_add rfl rfl rfl) ?_
    refine drM rfl rfl rfl ?_
    refine dr_q rfl rfl (q_nil rfl) ?_
    refine dr_q rfl rfl (q_fieldj (j := 0) rfl Tryd.runUnderlying84 rfl Tryd.sizeOf78 rfl) ?_
    refine dr_q rfl rfl (q_fieldj (j := 4) rfl Tryd.runUnderlying78 rfl Tryd.sizeOf23 rfl) ?_
    refine dr_q rfl rfl (q_load1 rfl Tryd.isAgg23 (i := 2) rfl rfl) ?_
    refine dr_q rfl rfl (q_conv rfl Tryd.runUnderlying23 Tryd.runUnderlying2 rfl) ?_
    refine dr_q rfl rfl (q_iface rfl Tryd.runUnderlying2 rfl) ?_
    refine dr_q rfl rfl (q_build (vs := [(0, _), (1, _), (2, _)]) ⟨rfl, rfl, rfl, rfl, rfl, rfl, trivial⟩ b139) ?_
    refine drA rfl rfl rfl ?_
    refine dr_m rfl rfl (m_box rfl rfl) (fun _ _ p hp => List.mem_cons_of_mem _ hp) (fun _ _ => ?_)
    refine dr_q rfl rfl (q_iface rfl Tryd.runUnderlying137 rfl) ?_
    refine drA rfl rfl rfl ?_
    refine dr_nil ?_
    refine se_seq ?_
    refine scK [2, 3] rfl ?_
    refine sc_ret ?_
    refine se_then_ret ?_
    refine se_block_ret ?_
    iterate 2 refine se_then_ret ?_
    refine se_block_ret ?_
    refine se_then_ret ?_
    exact se_end (res2 Tryd.results22 rfl rfl) (fun w' hw => .inl ⟨hbad, ⟨_, _, _, rfl⟩, hw.eff⟩)
   have hpo : (srow bs i).off < 9223372036854775808 := by rw [wneg q5] at h174_6; omega
   refine sqK [0, 8, 9, 13, 14, 15, 16, 41, 42, 43, 44, 45, 1023] rfl ?_
   refine sc_cond_f rfl ?_
   refine scS ?_
   refine scK [0, 8, 9, 13, 14, 15, 16, 41, 42, 43, 44, 45] rfl ?_
   refine sc_seq ?_
   refine scR ?_
   refine sqM rfl rfl ?_
   refine sq_q (q_nil rfl) rfl ?_
   refine sq_q (q_fieldj (j := 0) rfl Tryd.runUnderlying84 rfl Tryd.sizeOf78 rfl) rfl ?_
   refine sq_q (q_fieldj (j := 10) rfl Tryd.runUnderlying78 rfl Tryd.sizeOf23 rfl) rfl ?_
   refine sq_q (q_load1 rfl Tryd.isAgg23 (i := 2) rfl rfl) rfl ?_
   refine sq_q (q_conv rfl Tryd.runUnderlying23 Tryd.runUnderlying2 rfl) rfl ?_
   refine sq_split (q_lss rfl rfl) rfl (fun h176_6 => ?_) (fun h176_6 => ?_)
   ·
    have hbad : ¬ Good bs := fun hg => by have h9 := (hg.ss i hin).2; rw [wneg q6] at h176_6; omega
    refine sqK [0, 8, 9, 13, 14, 15, 16, 41, 42, 43, 44, 45, 1044] rfl ?_
    refine sc_cond_t rfl ?_
    refine sc_seq ?_
    refine sc_draw [0, 1, 2, 3, 4, 5, 6, 7, 8, 9, 10, 11, 14, 12, 13, 15] [12] _ mixed (by kernel_rfl) (by kernel_rfl) (List.Subset.refl _) ?_
    iterate 2 refine drM rfl rfl rfl ?_
    refine dr_q rfl rfl (q_conv rfl Tryd.runUnderlying12 Tryd.runUnderlying2 rfl) ?_
    refine dr_q rfl rfl (q_add rfl rfl rfl) ?_
    refine drM rfl rfl rfl ?_
    refine dr_q rfl rfl (q_nil rfl) ?_
    refine dr_q rfl rfl (q_fieldj (j := 0) rfl Tryd.runUnderlying84 rfl Tryd.sizeOf78 rfl) ?_
    refine dr_q rfl rfl (q_fieldj (j := 10) rfl Tryd.runUnderlying78 rfl Tryd.sizeOf23 rfl) ?_
    refine dr_q rfl rfl (q_load1 rfl Tryd.isAgg23 (i := 2) rfl rfl) ?_
    refine dr_q rfl rfl (q_conv rfl Tryd.runUnderlying23 Tryd.runUnderlying2 rfl) ?_
    refine dr_q rfl rfl (q_iface rfl Tryd.runUnderlying2 rfl) ?_
    refine dr_q rfl rfl (q_build (vs := [(0, _), (1, _), (2, _)]) ⟨rfl, rfl, rfl, rfl, rfl, rfl, trivial⟩ b139) ?_
    refine drA rfl rfl rfl ?_
    refine dr_m rfl rfl (m_box rfl rfl) (fun _ _ p hp => List.mem_cons_of_mem _ hp) (fun _ _ => ?_)
    refine dr_q rfl rfl (q_iface rfl Tryd.runUnderlying137 rfl) ?_
    refine drA rfl rfl rfl ?_
    refine dr_nil ?_
    refine se_seq ?_
    refine scK [2, 3] rfl ?_
    refine sc_ret ?_
    refine se_then_ret ?_
    refine se_block_ret ?_
    iterate 2 refine se_then_ret ?_
    refine se_block_ret ?_
    refine se_then_ret ?_
    exact se_end (res2 Tryd.results22 rfl rfl) (fun w' hw => .inl ⟨hbad, ⟨_, _, _, rfl⟩, hw.eff⟩)
   have hpf : (srow bs i).size < 9223372036854775808 := by rw [wneg q6] at h176_6; omega
   have hcomp : Comp (srow bs i).flags = 0 := hplain i hin (all_le hi2 ⟨hpo, hpf⟩)
   refine sqK [0, 8, 9, 13, 14, 15, 16, 41, 42, 43, 44, 45, 1044] rfl ?_
   refine sc_cond_f rfl ?_
   refine scS ?_
   refine scK [0, 8, 9, 13, 14, 15, 16, 41, 42, 43, 45] rfl ?_
   refine sc_seq ?_
   refine sc_draw [0, 1, 2, 3, 4, 5, 6, 7, 8, 9, 10, 11, 12, 13, 14, 15, 16, 17] [14, 17] [(N, .cells [.string ⟨#[]⟩, .int .u32 (((srow bs i).type : Nat) : Int), .int .u32 (((srow bs i).flags : Nat) : Int), .int .u64 (((srow bs i).addr : Nat) : Int), .int .u64 (((srow bs i).off : Nat) : Int), .int .u64 0, .int .u32 (((srow bs i).link : Nat) : Int), .int .u32 (((srow bs i).info : Nat) : Int), .int .u64 (((srow bs i).align : Nat) : Int), .int .u64 (((srow bs i).ents : Nat) : Int), .int .u64 (((srow bs i).size : Nat) : Int), .nilIface, .pointer none, .int .i64 0, .int .i64 0].toArray 84 (0, 0))] mixed (by kernel_rfl) (by kernel_rfl) (fun _ h => by simp at h; simp [h]) ?_
   iterate 3 refine drM rfl rfl rfl ?_
   refine dr_q rfl rfl (q_nil rfl) ?_
   refine dr_q rfl rfl (q_fieldj (j := 0) rfl Tryd.runUnderlying84 rfl Tryd.sizeOf78 rfl) ?_
   refine dr_q rfl rfl (q_fieldj (j := 4) rfl Tryd.runUnderlying78 rfl Tryd.sizeOf23 rfl) ?_
   refine dr_q rfl rfl (q_load1 rfl Tryd.isAgg23 (i := 0) rfl rfl) ?_
   refine dr_q rfl rfl (q_conv rfl Tryd.runUnderlying23 Tryd.runUnderlying2 (w_i64 (by omega) (by omega))) ?_
   refine drM rfl rfl rfl ?_
   refine dr_q rfl rfl (q_nil rfl) ?_
   refine dr_q rfl rfl (q_fieldj (j := 0) rfl Tryd.runUnderlying84 rfl Tryd.sizeOf78 rfl) ?_
   refine dr_q rfl rfl (q_fieldj (j := 10) rfl Tryd.runUnderlying78 rfl Tryd.sizeOf23 rfl) ?_
   refine dr_q rfl rfl (q_load1 rfl Tryd.isAgg23 (i := 0) rfl rfl) ?_
   refine dr_q rfl rfl (q_conv rfl Tryd.runUnderlying23 Tryd.runUnderlying2 (w_i64 (by omega) (by omega))) ?_
   refine dr_m rfl rfl (new_inv (off := (srow bs i).off) (n := (srow bs i).size) (by omega) (by omega) rfl rfl rfl) (fun _ _ p hp => by simp at hp; simp [hp]) (fun _ _ => ?_)
   refine dr_q rfl rfl (q_nil rfl) ?_
   refine dr_q rfl rfl (q_fieldj (j := 12) rfl Tryd.runUnderlying84 rfl Tryd.sizeOf81 rfl) ?_
   refine dr_m0l rfl rfl ((m_store rfl rfl Tryd.sizeOf81 rfl (i := 3) rfl rfl rfl (by intro h; omega))) (by kernel_rfl) (fun _ _ => ?_)
   refine dr_nil ?_
   refine se_seq ?_
   refine scK [0, 8, 9, 13, 14, 15, 16, 41, 42, 43, 45] rfl ?_
   refine sc_seq ?_
   refine scR ?_
   refine sqM rfl rfl ?_
   refine sq_q (q_nil rfl) rfl ?_
   refine sq_q (q_fieldj (j := 0) rfl Tryd.runUnderlying84 rfl Tryd.sizeOf78 rfl) rfl ?_
   refine sq_q (q_fieldj (j := 2) rfl Tryd.runUnderlying78 rfl Tryd.sizeOf76 rfl) rfl ?_
   refine sq_q (q_load1 rfl Tryd.isAgg76 (i := 3) rfl rfl) rfl ?_
   refine sq_q (q_and rfl rfl hcomp) rfl ?_
   refine sq_q (q_decT (q_eql rfl rfl) (rfl)) rfl ?_
   refine sqK [0, 8, 9, 13, 14, 15, 16, 41, 42, 43, 45, 1082] rfl ?_
   refine sc_cond_t rfl ?_
   refine scR ?_
   iterate 2 refine sqM rfl rfl ?_
   refine sq_q (q_nil rfl) rfl ?_
   refine sq_q (q_fieldj (j := 12) rfl Tryd.runUnderlying84 rfl Tryd.sizeOf81 rfl) rfl ?_
   refine sq_q (q_load1 rfl Tryd.isAgg81 (i := 3) rfl rfl) rfl ?_
   refine sq_q (q_iface rfl Tryd.runUnderlying81 rfl) rfl ?_
   refine sq_q (q_nil rfl) rfl ?_
   refine sq_q (q_fieldj (j := 11) rfl Tryd.runUnderlying84 rfl Tryd.sizeOf80 rfl) rfl ?_
   refine sq_m0 ((m_store rfl rfl Tryd.sizeOf80 rfl (i := 3) rfl rfl rfl (by intro h; omega))) (fun _ _ => ?_)
   refine sqK [0, 8, 9, 13, 14, 15, 16, 41, 42, 43, 45] rfl ?_
   refine sc_region ?_
   iterate 2 refine sqM rfl rfl ?_
   refine sq_q (q_nil rfl) rfl ?_
   refine sq_q (q_fieldj (j := 0) rfl Tryd.runUnderlying84 rfl Tryd.sizeOf78 rfl) rfl ?_
   refine sq_q (q_fieldj (j := 10) rfl Tryd.runUnderlying78 rfl Tryd.sizeOf23 rfl) rfl ?_
   refine sq_q (q_load1 rfl Tryd.isAgg23 (i := 3) rfl rfl) rfl ?_
   refine sq_q (q_nil rfl) rfl ?_
   refine sq_q (q_fieldj (j := 0) rfl Tryd.runUnderlying84 rfl Tryd.sizeOf78 rfl) rfl ?_
   refine sq_q (q_fieldj (j := 5) rfl Tryd.runUnderlying78 rfl Tryd.sizeOf23 rfl) rfl ?_
   refine sq_m0 ((m_store rfl rfl Tryd.sizeOf23 rfl (i := 3) rfl rfl rfl (by intro h; omega))) (fun _ _ => ?_)
   refine sqK [0, 8, 9, 13, 14, 15, 16, 41, 42, 43, 45] rfl ?_
   refine sc_region ?_
   iterate 2 refine sqM rfl rfl ?_
   refine sq_q (q_nil rfl) rfl ?_
   refine sq_q (q_fieldj (j := 9) rfl Tryd.runUnderlying72 rfl Tryd.sizeOf67 rfl) rfl ?_
   refine sq_q (q_load1 rfl Tryd.isAgg67 (i := 7) rfl rfl) rfl ?_
   refine sqM rfl rfl ?_
   refine sq_m (m_lit (vs := [(0, _)]) ⟨rfl, rfl, trivial⟩ (e := 73) (l := [.pointer (some ⟨N, 0, none⟩)]) (fun w => by kernel_rfl)) rfl (fun _ _ => ?_)
   refine sq_m (m_app (j0 := 6) (j := 0) (i := Tryd.t73) (z := .pointer none) (n := i) (cap := cap) (xs := ptrs sf i) (pad := spad) (news := [.pointer (some ⟨N, 0, none⟩)]) rfl rfl rfl rfl rfl Tryd.underlying67 (by kernel_rfl) (by kernel_rfl) (by kernel_rfl) (by rw [ptrs_length, t73_size, Nat.mul_one]) (by rw [hi9, t73_size, Nat.mul_one]) hi7 hi8 (by rw [t73_size]; rfl) (by rw [t73_size]; simp) rfl (by omega) (by rw [t73_bytes]; omega) (by intro h; omega)) rfl (fun y2 hz => ?_)
   obtain ⟨hz1, hz2, hz3, hz4, hz5, hz6⟩ := hz
   refine sq_q (q_nil rfl) rfl ?_
   refine sq_q (q_fieldj (j := 9) rfl Tryd.runUnderlying72 rfl Tryd.sizeOf67 rfl) rfl ?_
   refine sq_m0 ((m_store rfl rfl Tryd.sizeOf67 rfl (i := 8) rfl rfl rfl (by intro h; omega))) (fun _ _ => ?_)
   refine sq_nil ?_
   refine se_block ?_
   refine se_seq ?_
   refine scK [0, 8, 9, 13, 14, 15, 16, 41, 42, 43] rfl ?_
   refine sc_region ?_
   refine sqM rfl rfl ?_
   refine sq_q (q_add rfl rfl (w_i64 (by omega) (by omega))) rfl ?_
   refine sqA rfl rfl ?_
   refine sq_nil ?_
   refine se_loop ⟨i + 1, y2.N, y.b, y.cap, y.pad, y2.b, y2.cap, y2.pad, fun j => if j = i then (N, y.N) else sf j⟩ (by dsimp only; omega) ⟨by dsimp only; omega, fun j hj => (by
    have hj2 : j < i ∨ j = i := by dsimp only at hj; omega
    rcases hj2 with hj2 | rfl
    ·
     exact hi2 j hj2
    ·
     exact ⟨hpo, hpf⟩), hy3, hy4, by rw [hy5, t74_size, Nat.mul_one], by rcases hy1 with hy1 | hy1 <;> dsimp only <;> omega, hz3, hz4, by rw [hz5, t73_size, Nat.mul_one], by rcases hz1 with hz1 | hz1 <;> dsimp only <;> omega, fun j hj => (by
    have hj2 : j < i ∨ j = i := by dsimp only at hj; omega
    dsimp only
    rcases hj2 with hj2 | rfl
    ·
     rw [if_neg (by omega)]; exact hi11 j hj2
    ·
     rw [if_pos rfl]; exact ⟨hge2, by dsimp only; omega⟩)⟩ ⟨rfl, rfl, rfl, rfl, rfl, rfl, rfl, rfl, rfl, rfl, trivial⟩ (fun w h => ?_)
   refine h.cast_mm ?_
   dsimp only
   rw [smem_next, ptrs_next, nmL_succ]
   simp only [List.cons_append, List.append_assoc, List.nil_append]
   exact perm_sec
  refine sqK [0, 8, 9, 13, 14, 15, 16, 41, 42, 43, 859] rfl ?_
  refine sc_cond_f rfl ?_
  refine sc_exit ?_
  iterate 2 refine se_then_exit ?_
  refine se_block_hit ?_
  refine se_seq ?_
  iterate 2 refine scK [8, 13, 14, 16, 41] rfl ?_
  have hdone : i = (hd bs).shnum := by omega
  subst hdone
  refine sc_mem (fun _ h => h.sublist (.cons _ (.cons_cons _ (.cons_cons _ (.cons_cons _ (.cons_cons _ (.cons _ (List.Sublist.refl _)))))))) ?_
  exact hG _ _ _ _ _ _ _ _ _ _ _ _ _ _ ⟨hhead, hpr.pcut, hpr.ps, hne ▸ hcut, hi2⟩ hbig hfp hi11 hi10 hpb hpf0
 have hbad := m2_cut hmode hc3 hcut
 refine sqK [0, 8, 9, 13, 14, 15, 16, 37, 41, 42] rfl ?_
 refine sc_seq ?_
 refine scR ?_
 refine sqM rfl rfl ?_
 refine sq_q (q_iface_neq_nil rfl rfl Tryd.runUnderlying86) rfl ?_
 refine sqK [0, 8, 9, 13, 14, 15, 16, 37, 41, 42, 855] rfl ?_
 refine sc_cond_t rfl ?_
 refine scR ?_
 refine sqM rfl rfl ?_
 iterate 2 refine sqA rfl rfl ?_
 refine sqK [2, 3] rfl ?_
 refine sc_ret ?_
 refine se_then_ret ?_
 exact se_end (res2 Tryd.results22 rfl rfl) (fun w' hw => .inl ⟨hbad, ⟨_, _, _, rfl⟩, hw.eff⟩)

theorem nf_f_false {g gu : Gx} {bs : List UInt8} {u : Value} {ms : MM} {w0 : World} (cx : Cx g gu bs u ms w0) (hG : StG g gu bs u ms w0) : ∀ (big : Bool) (fp sb cur N pb pcap : Nat) (shn nms : Int) (f : Nat → Nat × Nat) (pad : List Value), PrOk bs → isBig bs = big → isWide bs = false → w0.heap.size ≤ fp → w0.heap.size ≤ sb → -9223372036854775808 ≤ shn → shn ≤ 9223372036854775807 → -9223372036854775808 ≤ nms → nms ≤ 9223372036854775807 → Mode2 bs shn nms → w0.heap.size ≤ pb → (∀ j, j < (hd bs).phnum → w0.heap.size ≤ (f j).1 ∧ w0.heap.size ≤ (f j).2) →
 Sc Tryd.prog r36 (bodyPost Tryd.prog Tryd.f22 (NF bs u ((1, g.o) :: (0, gu.o) :: ms) w0)) 1287 w0 E0 [(0, .iface 117 u), (4, .pointer (some ⟨sb, 0, none⟩)), (8, .pointer (some ⟨fp, 0, none⟩)), (9, .int .u8 (ordN big)), (13, .int .i64 ((hd bs).shoff : Int)), (14, .int .i64 ((hd bs).shes : Int)), (15, .int .i64 shn), (16, .int .i64 nms), (26, .int .i64 ((wd false 40 64 : Nat) : Int))] N
  ((pb, .cells (ptrs f (hd bs).phnum ++ pad).toArray 89 (0, 0)) :: (fp, fileO bs big (hd bs).type (hd bs).machine (hd bs).entry (.slice none 0 0) (.slice (some ⟨pb, 0, none⟩) (hd bs).phnum pcap)) :: (sb, srO (.iface 117 u) 0 cur (limOf 0 9223372036854775807) (.int .i64 (9223372036854775807 : Nat))) :: (1, g.o) :: (0, gu.o) :: (pmem bs u f (hd bs).phnum ++ ms)) := by
 intro big fp sb cur N pb pcap shn nms f pad hpr hbig hwd hfp hsb hshn1 hshn2 hnms1 hnms2 hmode hpb hpf0
 have hwd2 : wd false 40 64 = 40 := rfl
 obtain ⟨hl1, hl2, hl3, hl4, hl5, hl6, hl7, hl8, hl9, hl10, hl11⟩ := hd_lt bs
 obtain ⟨c, hc1, hc2, hc3⟩ := wrap_un hshn1 hshn2
 refine sc_seq ?_
 refine scR ?_
 refine sqM rfl rfl ?_
 refine sq_split (q_gtr rfl rfl) rfl (fun h150_1 => ?_) (fun h150_1 => ?_)
 ·
  have _tok := trivial
  refine sqM rfl rfl ?_
  refine sq_gy rfl rfl rfl ?_
  refine sqM rfl rfl ?_
  refine sq_gy rfl rfl rfl ?_
  refine sqM rfl rfl ?_
  refine sq_gy rfl rfl rfl ?_
  refine sq_split (q_lss rfl rfl) rfl (fun h150_5 => ?_) (fun h150_5 => ?_)
  ·
   have hbad := m2_she (bs := bs) hmode (by omega) (by rw [hwd]; omega)
   refine sqT rfl rfl rfl ?_
   refine sqK [0, 4, 8, 9, 13, 14, 15, 16, 804] rfl ?_
   refine sc_cond_t rfl ?_
   refine scR ?_
   refine sqM rfl rfl ?_
   refine sq_q (q_iface rfl Tryd.runUnderlying3 rfl) rfl ?_
   refine sq_q (q_build (vs := [(0, _), (1, _), (2, _)]) ⟨rfl, rfl, rfl, rfl, rfl, rfl, trivial⟩ b139) rfl ?_
   refine sq_m (m_box rfl rfl) rfl (fun _ _ => ?_)
   refine sq_q (q_iface rfl Tryd.runUnderlying137 rfl) rfl ?_
   iterate 2 refine sqA rfl rfl ?_
   refine sqK [2, 3] rfl ?_
   refine sc_ret ?_
   refine se_then_ret ?_
   exact se_end (res2 Tryd.results22 rfl rfl) (fun w' hw => .inl ⟨hbad, ⟨_, _, _, rfl⟩, hw.eff⟩)
  refine sqT rfl rfl rfl ?_
  refine sqK [0, 4, 8, 9, 13, 14, 15, 16, 804] rfl ?_
  refine sc_cond_f rfl ?_
  refine scS ?_
  refine scK [0, 4, 8, 9, 13, 14, 15, 16] rfl ?_
  refine scR ?_
  refine sqM rfl rfl ?_
  refine sq_q (q_conv rfl Tryd.runUnderlying3 Tryd.runUnderlying23 hc1) rfl ?_
  refine sq_m (cap120_inv rfl rfl hc2) rfl (fun r hr => ?_)
  refine sqA rfl rfl ?_
  rcases hr with ⟨rfl, hr⟩ | ⟨k, rfl, hk, hc4⟩
  ·
   have hbad := m2_big hmode hr hc3
   refine sqK [0, 4, 8, 9, 13, 14, 15, 16, 35] rfl ?_
   refine sc_seq ?_
   refine scR ?_
   refine sqM rfl rfl ?_
   refine sq_q (q_decT (q_lss rfl rfl) (by omega)) rfl ?_
   refine sqK [0, 4, 8, 9, 13, 14, 15, 16, 35, 814] rfl ?_
   refine sc_cond_t rfl ?_
   refine scR ?_
   refine sqM rfl rfl ?_
   refine sq_q (q_iface rfl Tryd.runUnderlying3 rfl) rfl ?_
   refine sq_q (q_build (vs := [(0, _), (1, _), (2, _)]) ⟨rfl, rfl, rfl, rfl, rfl, rfl, trivial⟩ b139) rfl ?_
   refine sq_m (m_box rfl rfl) rfl (fun _ _ => ?_)
   refine sq_q (q_iface rfl Tryd.runUnderlying137 rfl) rfl ?_
   iterate 2 refine sqA rfl rfl ?_
   refine sqK [2, 3] rfl ?_
   refine sc_ret ?_
   refine se_then_ret ?_
   exact se_end (res2 Tryd.results22 rfl rfl) (fun w' hw => .inl ⟨hbad, ⟨_, _, _, rfl⟩, hw.eff⟩)
  have hc5 : 0 ≤ shn ∧ (c : Int) = shn := by omega
  refine sqK [0, 4, 8, 9, 13, 14, 15, 16, 35] rfl ?_
  refine sc_seq ?_
  refine scR ?_
  refine sqM rfl rfl ?_
  refine sq_q (q_decF (q_lss rfl rfl) (by omega)) rfl ?_
  refine sqK [0, 4, 8, 9, 13, 14, 15, 16, 35, 814] rfl ?_
  refine sc_cond_f rfl ?_
  refine scS ?_
  refine scK [0, 4, 8, 9, 13, 14, 15, 16, 35] rfl ?_
  refine sc_seq ?_
  refine scR ?_
  refine sqM rfl rfl ?_
  refine sq_split (q_gtr rfl rfl) rfl (fun h155_1 => ?_) (fun h155_1 => ?_)
  ·
   obtain ⟨q, hq, hq2⟩ : ∃ q, 18446744073709551615 / c = q ∧ q ≤ 18446744073709551615 := ⟨_, rfl, Nat.div_le_self _ _⟩
   refine sqM rfl rfl ?_
   refine sq_gy rfl rfl rfl ?_
   refine sqM rfl rfl ?_
   refine sq_gy rfl rfl rfl ?_
   refine sq_q (q_conv rfl Tryd.runUnderlying3 Tryd.runUnderlying23 hc1) rfl ?_
   refine sq_gy rfl rfl rfl ?_
   refine sq_q (q_quoN (a := 18446744073709551615) (b := c) (r := q) rfl rfl (by omega) hq (w_u64 (by omega) (by omega))) rfl ?_
   refine sq_gy rfl rfl rfl ?_
   refine sqM rfl rfl ?_
   refine sq_gy rfl rfl rfl ?_
   refine sq_q (q_conv rfl Tryd.runUnderlying3 Tryd.runUnderlying23 (w_u64 (by omega) (by omega))) rfl ?_
   refine sq_gy rfl rfl rfl ?_
   refine sq_split (q_lss rfl rfl) rfl (fun h155_8 => ?_) (fun h155_8 => ?_)
   ·
    have hbad := m2_quo hmode hq (by omega) hc5.2 (by omega)
    refine sqT rfl rfl rfl ?_
    refine sqK [0, 4, 8, 9, 13, 14, 15, 16, 35, 829] rfl ?_
    refine sc_cond_t rfl ?_
    refine scR ?_
    refine sqM rfl rfl ?_
    refine sq_q (q_iface rfl Tryd.runUnderlying3 rfl) rfl ?_
    refine sq_q (q_build (vs := [(0, _), (1, _), (2, _)]) ⟨rfl, rfl, rfl, rfl, rfl, rfl, trivial⟩ b139) rfl ?_
    refine sq_m (m_box rfl rfl) rfl (fun _ _ => ?_)
    refine sq_q (q_iface rfl Tryd.runUnderlying137 rfl) rfl ?_
    iterate 2 refine sqA rfl rfl ?_
    refine sqK [2, 3] rfl ?_
    refine sc_ret ?_
    refine se_then_ret ?_
    exact se_end (res2 Tryd.results22 rfl rfl) (fun w' hw => .inl ⟨hbad, ⟨_, _, _, rfl⟩, hw.eff⟩)
   have hmul := quo_mul (c := c) (by omega) hq (show (hd bs).shes ≤ q by omega)
   refine sqT rfl rfl rfl ?_
   refine sqK [0, 4, 8, 9, 13, 14, 15, 16, 35, 829] rfl ?_
   refine sc_cond_f rfl ?_
   refine scS ?_
   iterate 2 refine scK [0, 4, 8, 9, 13, 14, 15, 16, 35] rfl ?_
   exact nf_f2_false cx hG _ _ _ _ _ _ _ _ _ _ _ _ k hpr hbig hwd hfp hsb hmode hc1 hc4 hc5 hmul hk (by omega) hpb hpf0
  have hc0 : c = 0 := by omega
  have hmul : c * (hd bs).shes < 18446744073709551616 := by rw [hc0, Nat.zero_mul]; omega
  refine sqM rfl rfl ?_
  iterate 6 refine sq_gn rfl rfl rfl rfl ?_
  refine sqF rfl rfl rfl ?_
  refine sqK [0, 4, 8, 9, 13, 14, 15, 16, 35, 829] rfl ?_
  refine sc_cond_f rfl ?_
  refine scS ?_
  iterate 2 refine scK [0, 4, 8, 9, 13, 14, 15, 16, 35] rfl ?_
  exact nf_f2_false cx hG _ _ _ _ _ _ _ _ _ _ _ _ k hpr hbig hwd hfp hsb hmode hc1 hc4 hc5 hmul hk (by omega) hpb hpf0
 refine sqM rfl rfl ?_
 iterate 3 refine sq_gn rfl rfl rfl rfl ?_
 refine sqF rfl rfl rfl ?_
 refine sqK [0, 4, 8, 9, 13, 14, 15, 16, 804] rfl ?_
 refine sc_cond_f rfl ?_
 refine scS ?_
 refine scK [0, 4, 8, 9, 13, 14, 15, 16] rfl ?_
 refine scR ?_
 refine sqM rfl rfl ?_
 refine sq_q (q_conv rfl Tryd.runUnderlying3 Tryd.runUnderlying23 hc1) rfl ?_
 refine sq_m (cap120_inv rfl rfl hc2) rfl (fun r hr => ?_)
 refine sqA rfl rfl ?_
 rcases hr with ⟨rfl, hr⟩ | ⟨k, rfl, hk, hc4⟩
 ·
  have hbad := m2_big hmode hr hc3
  refine sqK [0, 4, 8, 9, 13, 14, 15, 16, 35] rfl ?_
  refine sc_seq ?_
  refine scR ?_
  refine sqM rfl rfl ?_
  refine sq_q (q_decT (q_lss rfl rfl) (by omega)) rfl ?_
  refine sqK [0, 4, 8, 9, 13, 14, 15, 16, 35, 814] rfl ?_
  refine sc_cond_t rfl ?_
  refine scR ?_
  refine sqM rfl rfl ?_
  refine sq_q (q_iface rfl Tryd.runUnderlying3 rfl) rfl ?_
  refine sq_q (q_build (vs := [(0, _), (1, _), (2, _)]) ⟨rfl, rfl, rfl, rfl, rfl, rfl, trivial⟩ b139) rfl ?_
  refine sq_m (m_box rfl rfl) rfl (fun _ _ => ?_)
  refine sq_q (q_iface rfl Tryd.runUnderlying137 rfl) rfl ?_
  iterate 2 refine sqA rfl rfl ?_
  refine sqK [2, 3] rfl ?_
  refine sc_ret ?_
  refine se_then_ret ?_
  exact se_end (res2 Tryd.results22 rfl rfl) (fun w' hw => .inl ⟨hbad, ⟨_, _, _, rfl⟩, hw.eff⟩)
 have hc5 : 0 ≤ shn ∧ (c : Int) = shn := by omega
 refine sqK [0, 4, 8, 9, 13, 14, 15, 16, 35] rfl ?_
 refine sc_seq ?_
 refine scR ?_
 refine sqM rfl rfl ?_
 refine sq_q (q_decF (q_lss rfl rfl) (by omega)) rfl ?_
 refine sqK [0, 4, 8, 9, 13, 14, 15, 16, 35, 814] rfl ?_
 refine sc_cond_f rfl ?_
 refine scS ?_
 refine scK [0, 4, 8, 9, 13, 14, 15, 16, 35] rfl ?_
 refine sc_seq ?_
 refine scR ?_
 refine sqM rfl rfl ?_
 refine sq_split (q_gtr rfl rfl) rfl (fun h155_1 => ?_) (fun h155_1 => ?_)
 ·
  obtain ⟨q, hq, hq2⟩ : ∃ q, 18446744073709551615 / c = q ∧ q ≤ 18446744073709551615 := ⟨_, rfl, Nat.div_le_self _ _⟩
  refine sqM rfl rfl ?_
  refine sq_gy rfl rfl rfl ?_
  refine sqM rfl rfl ?_
  refine sq_gy rfl rfl rfl ?_
  refine sq_q (q_conv rfl Tryd.runUnderlying3 Tryd.runUnderlying23 hc1) rfl ?_
  refine sq_gy rfl rfl rfl ?_
  refine sq_q (q_quoN (a := 18446744073709551615) (b := c) (r := q) rfl rfl (by omega) hq (w_u64 (by omega) (by omega))) rfl ?_
  refine sq_gy rfl rfl rfl ?_
  refine sqM rfl rfl ?_
  refine sq_gy rfl rfl rfl ?_
  refine sq_q (q_conv rfl Tryd.runUnderlying3 Tryd.runUnderlying23 (w_u64 (by omega) (by omega))) rfl ?_
  refine sq_gy rfl rfl rfl ?_
  refine sq_split (q_lss rfl rfl) rfl (fun h155_8 => ?_) (fun h155_8 => ?_)
  ·
   have hbad := m2_quo hmode hq (by omega) hc5.2 (by omega)
   refine sqT rfl rfl rfl ?_
   refine sqK [0, 4, 8, 9, 13, 14, 15, 16, 35, 829] rfl ?_
   refine sc_cond_t rfl ?_
   refine scR ?_
   refine sqM rfl rfl ?_
   refine sq_q (q_iface rfl Tryd.runUnderlying3 rfl) rfl ?_
   refine sq_q (q_build (vs := [(0, _), (1, _), (2, _)]) ⟨rfl, rfl, rfl, rfl, rfl, rfl, trivial⟩ b139) rfl ?_
   refine sq_m (m_box rfl rfl) rfl (fun _ _ => ?_)
   refine sq_q (q_iface rfl Tryd.runUnderlying137 rfl) rfl ?_
   iterate 2 refine sqA rfl rfl ?_
   refine sqK [2, 3] rfl ?_
   refine sc_ret ?_
   refine se_then_ret ?_
   exact se_end (res2 Tryd.results22 rfl rfl) (fun w' hw => .inl ⟨hbad, ⟨_, _, _, rfl⟩, hw.eff⟩)
  have hmul := quo_mul (c := c) (by omega) hq (show (hd bs).shes ≤ q by omega)
  refine sqT rfl rfl rfl ?_
  refine sqK [0, 4, 8, 9, 13, 14, 15, 16, 35, 829] rfl ?_
  refine sc_cond_f rfl ?_
  refine scS ?_
  iterate 2 refine scK [0, 4, 8, 9, 13, 14, 15, 16, 35] rfl ?_
  exact nf_f2_false cx hG _ _ _ _ _ _ _ _ _ _ _ _ k hpr hbig hwd hfp hsb hmode hc1 hc4 hc5 hmul hk (by omega) hpb hpf0
 have hc0 : c = 0 := by omega
 have hmul : c * (hd bs).shes < 18446744073709551616 := by rw [hc0, Nat.zero_mul]; omega
 refine sqM rfl rfl ?_
 iterate 6 refine sq_gn rfl rfl rfl rfl ?_
 refine sqF rfl rfl rfl ?_
 refine sqK [0, 4, 8, 9, 13, 14, 15, 16, 35, 829] rfl ?_
 refine sc_cond_f rfl ?_
 refine scS ?_
 iterate 2 refine scK [0, 4, 8, 9, 13, 14, 15, 16, 35] rfl ?_
 exact nf_f2_false cx hG _ _ _ _ _ _ _ _ _ _ _ _ k hpr hbig hwd hfp hsb hmode hc1 hc4 hc5 hmul hk (by omega) hpb hpf0

theorem nf_f_true {g gu : Gx} {bs : List UInt8} {u : Value} {ms : MM} {w0 : World} (cx : Cx g gu bs u ms w0) (hG : StG g gu bs u ms w0) : ∀ (big : Bool) (fp sb cur N pb pcap : Nat) (shn nms : Int) (f : Nat → Nat × Nat) (pad : List Value), PrOk bs → isBig bs = big → isWide bs = true → w0.heap.size ≤ fp → w0.heap.size ≤ sb → -9223372036854775808 ≤ shn → shn ≤ 9223372036854775807 → -9223372036854775808 ≤ nms → nms ≤ 9223372036854775807 → Mode2 bs shn nms → w0.heap.size ≤ pb → (∀ j, j < (hd bs).phnum → w0.heap.size ≤ (f j).1 ∧ w0.heap.size ≤ (f j).2) →
 Sc Tryd.prog r36 (bodyPost Tryd.prog Tryd.f22 (NF bs u ((1, g.o) :: (0, gu.o) :: ms) w0)) 1287 w0 E0 [(0, .iface 117 u), (4, .pointer (some ⟨sb, 0, none⟩)), (8, .pointer (some ⟨fp, 0, none⟩)), (9, .int .u8 (ordN big)), (13, .int .i64 ((hd bs).shoff : Int)), (14, .int .i64 ((hd bs).shes : Int)), (15, .int .i64 shn), (16, .int .i64 nms), (26, .int .i64 ((wd true 40 64 : Nat) : Int))] N
  ((pb, .cells (ptrs f (hd bs).phnum ++ pad).toArray 89 (0, 0)) :: (fp, fileO bs big (hd bs).type (hd bs).machine (hd bs).entry (.slice none 0 0) (.slice (some ⟨pb, 0, none⟩) (hd bs).phnum pcap)) :: (sb, srO (.iface 117 u) 0 cur (limOf 0 9223372036854775807) (.int .i64 (9223372036854775807 : Nat))) :: (1, g.o) :: (0, gu.o) :: (pmem bs u f (hd bs).phnum ++ ms)) := by
 intro big fp sb cur N pb pcap shn nms f pad hpr hbig hwd hfp hsb hshn1 hshn2 hnms1 hnms2 hmode hpb hpf0
 have hwd2 : wd true 40 64 = 64 := rfl
 obtain ⟨hl1, hl2, hl3, hl4, hl5, hl6, hl7, hl8, hl9, hl10, hl11⟩ := hd_lt bs
 obtain ⟨c, hc1, hc2, hc3⟩ := wrap_un hshn1 hshn2
 refine sc_seq ?_
 refine scR ?_
 refine sqM rfl rfl ?_
 refine sq_split (q_gtr rfl rfl) rfl (fun h150_1 => ?_) (fun h150_1 => ?_)
 ·
  have _tok := trivial
  refine sqM rfl rfl ?_
  refine sq_gy rfl rfl rfl ?_
  refine sqM rfl rfl ?_
  refine sq_gy rfl rfl rfl ?_
  refine sqM rfl rfl ?_
  refine sq_gy rfl rfl rfl ?_
  refine sq_split (q_lss rfl rfl) rfl (fun h150_5 => ?_) (fun h150_5 => ?_)
  ·
   have hbad := m2_she (bs := bs) hmode (by omega) (by rw [hwd]; omega)
   refine sqT rfl rfl rfl ?_
   refine sqK [0, 4, 8, 9, 13, 14, 15, 16, 804] rfl ?_
   refine sc_cond_t rfl ?_
   refine scR ?_
   refine sqM rfl rfl ?_
   refine sq_q (q_iface rfl Tryd.runUnderlying3 rfl) rfl ?_
   refine sq_q (q_build (vs := [(0, _), (1, _), (2, _)]) ⟨rfl, rfl, rfl, rfl, rfl, rfl, trivial⟩ b139) rfl ?_
   refine sq_m (m_box rfl rfl) rfl (fun _ _ => ?_)
   refine sq_q (q_iface rfl Tryd.runUnderlying137 rfl) rfl ?_
   iterate 2 refine sqA rfl rfl ?_
   refine sqK [2, 3] rfl ?_
   refine sc_ret ?_
   refine se_then_ret ?_
   exact se_end (res2 Tryd.results22 rfl rfl) (fun w' hw => .inl ⟨hbad, ⟨_, _, _, rfl⟩, hw.eff⟩)
  refine sqT rfl rfl rfl ?_
  refine sqK [0, 4, 8, 9, 13, 14, 15, 16, 804] rfl ?_
  refine sc_cond_f rfl ?_
  refine scS ?_
  refine scK [0, 4, 8, 9, 13, 14, 15, 16] rfl ?_
  refine scR ?_
  refine sqM rfl rfl ?_
  refine sq_q (q_conv rfl Tryd.runUnderlying3 Tryd.runUnderlying23 hc1) rfl ?_
  refine sq_m (cap120_inv rfl rfl hc2) rfl (fun r hr => ?_)
  refine sqA rfl rfl ?_
  rcases hr with ⟨rfl, hr⟩ | ⟨k, rfl, hk, hc4⟩
  ·
   have hbad := m2_big hmode hr hc3
   refine sqK [0, 4, 8, 9, 13, 14, 15, 16, 35] rfl ?_
   refine sc_seq ?_
   refine scR ?_
   refine sqM rfl rfl ?_
   refine sq_q (q_decT (q_lss rfl rfl) (by omega)) rfl ?_
   refine sqK [0, 4, 8, 9, 13, 14, 15, 16, 35, 814] rfl ?_
   refine sc_cond_t rfl ?_
   refine scR ?_
   refine sqM rfl rfl ?_
   refine sq_q (q_iface rfl Tryd.runUnderlying3 rfl) rfl ?_
   refine sq_q (q_build (vs := [(0, _), (1, _), (2, _)]) ⟨rfl, rfl, rfl, rfl, rfl, rfl, trivial⟩ b139) rfl ?_
   refine sq_m (m_box rfl rfl) rfl (fun _ _ => ?_)
   refine sq_q (q_iface rfl Tryd.runUnderlying137 rfl) rfl ?_
   iterate 2 refine sqA rfl rfl ?_
   refine sqK [2, 3] rfl ?_
   refine sc_ret ?_
   refine se_then_ret ?_
   exact se_end (res2 Tryd.results22 rfl rfl) (fun w' hw => .inl ⟨hbad, ⟨_, _, _, rfl⟩, hw.eff⟩)
  have hc5 : 0 ≤ shn ∧ (c : Int) = shn := by omega
  refine sqK [0, 4, 8, 9, 13, 14, 15, 16, 35] rfl ?_
  refine sc_seq ?_
  refine scR ?_
  refine sqM rfl rfl ?_
  refine sq_q (q_decF (q_lss rfl rfl) (by omega)) rfl ?_
  refine sqK [0, 4, 8, 9, 13, 14, 15, 16, 35, 814] rfl ?_
  refine sc_cond_f rfl ?_
  refine scS ?_
  refine scK [0, 4, 8, 9, 13, 14, 15, 16, 35] rfl ?_
  refine sc_seq ?_
  refine scR ?_
  refine sqM rfl rfl ?_
  refine sq_split (q_gtr rfl rfl) rfl (fun h155_1 => ?_) (fun h155_1 => ?_)
  ·
   obtain ⟨q, hq, hq2⟩ : ∃ q, 18446744073709551615 / c = q ∧ q ≤ 18446744073709551615 := ⟨_, rfl, Nat.div_le_self _ _⟩
   refine sqM rfl rfl ?_
   refine sq_gy rfl rfl rfl ?_
   refine sqM rfl rfl ?_
   refine sq_gy rfl rfl rfl ?_
   refine sq_q (q_conv rfl Tryd.runUnderlying3 Tryd.runUnderlying23 hc1) rfl ?_
   refine sq_gy rfl rfl rfl ?_
   refine sq_q (q_quoN (a := 18446744073709551615) (b := c) (r := q) rfl rfl (by omega) hq (w_u64 (by omega) (by omega))) rfl ?_
   refine sq_gy rfl rfl rfl ?_
   refine sqM rfl rfl ?_
   refine sq_gy rfl rfl rfl ?_
   refine sq_q (q_conv rfl Tryd.runUnderlying3 Tryd.runUnderlying23 (w_u64 (by omega) (by omega))) rfl ?_
   refine sq_gy rfl rfl rfl ?_
   refine sq_split (q_lss rfl rfl) rfl (fun h155_8 => ?_) (fun h155_8 => ?_)
   ·
    have hbad := m2_quo hmode hq (by omega) hc5.2 (by omega)
    refine sqT rfl rfl rfl ?_
    refine sqK [0, 4, 8, 9, 13, 14, 15, 16, 35, 829] rfl ?_
    refine sc_cond_t rfl ?_
    refine scR ?_
    refine sqM rfl rfl ?_
    refine sq_q (q_iface rfl Tryd.runUnderlying3 rfl) rfl ?_
    refine sq_q (q_build (vs := [(0, _), (1, _), (2, _)]) ⟨rfl, rfl, rfl, rfl, rfl, rfl, trivial⟩ b139) rfl ?_
    refine sq_m (m_box rfl rfl) rfl (fun _ _ => ?_)
    refine sq_q (q_iface rfl Tryd.runUnderlying137 rfl) rfl ?_
    iterate 2 refine sqA rfl rfl ?_
    refine sqK [2, 3] rfl ?_
    refine sc_ret ?_
    refine se_then_ret ?_
    exact se_end (res2 Tryd.results22 rfl rfl) (fun w' hw => .inl ⟨hbad, ⟨_, _, _, rfl⟩, hw.eff⟩)
   have hmul := quo_mul (c := c) (by omega) hq (show (hd bs).shes ≤ q by omega)
   refine sqT rfl rfl rfl ?_
   refine sqK [0, 4, 8, 9, 13, 14, 15, 16, 35, 829] rfl ?_
   refine sc_cond_f rfl ?_
   refine scS ?_
   iterate 2 refine scK [0, 4, 8, 9, 13, 14, 15, 16, 35] rfl ?_
   exact nf_f2_true cx hG _ _ _ _ _ _ _ _ _ _ _ _ k hpr hbig hwd hfp hsb hmode hc1 hc4 hc5 hmul hk (by omega) hpb hpf0
  have hc0 : c = 0 := by omega
  have hmul : c * (hd bs).shes < 18446744073709551616 := by rw [hc0, Nat.zero_mul]; omega
  refine sqM rfl rfl ?_
  iterate 6 refine sq_gn rfl rfl rfl rfl ?_
  refine sqF rfl rfl rfl ?_
  refine sqK [0, 4, 8, 9, 13, 14, 15, 16, 35, 829] rfl ?_
  refine sc_cond_f rfl ?_
  refine scS ?_
  iterate 2 refine scK [0, 4, 8, 9, 13, 14, 15, 16, 35] rfl ?_
  exact nf_f2_true cx hG _ _ _ _ _ _ _ _ _ _ _ _ k hpr hbig hwd hfp hsb hmode hc1 hc4 hc5 hmul hk (by omega) hpb hpf0
 refine sqM rfl rfl ?_
 iterate 3 refine sq_gn rfl rfl rfl rfl ?_
 refine sqF rfl rfl rfl ?_
 refine sqK [0, 4, 8, 9, 13, 14, 15, 16, 804] rfl ?_
 refine sc_cond_f rfl ?_
 refine scS ?_
 refine scK [0, 4, 8, 9, 13, 14, 15, 16] rfl ?_
 refine scR ?_
 refine sqM rfl rfl ?_
 refine sq_q (q_conv rfl Tryd.runUnderlying3 Tryd.runUnderlying23 hc1) rfl ?_
 refine sq_m (cap120_inv rfl rfl hc2) rfl (fun r hr => ?_)
 refine sqA rfl rfl ?_
 rcases hr with ⟨rfl, hr⟩ | ⟨k, rfl, hk, hc4⟩
 ·
  have hbad := m2_big hmode hr hc3
  refine sqK [0, 4, 8, 9, 13, 14, 15, 16, 35] rfl ?_
  refine sc_seq ?_
  refine scR ?_
  refine sqM rfl rfl ?_
  refine sq_q (q_decT (q_lss rfl rfl) (by omega)) rfl ?_
  refine sqK [0, 4, 8, 9, 13, 14, 15, 16, 35, 814] rfl ?_
  refine sc_cond_t rfl ?_
  refine scR ?_
  refine sqM rfl rfl ?_
  refine sq_q (q_iface rfl Tryd.runUnderlying3 rfl) rfl ?_
  refine sq_q (q_build (vs := [(0, _), (1, _), (2, _)]) ⟨rfl, rfl, rfl, rfl, rfl, rfl, trivial⟩ b139) rfl ?_
  refine sq_m (m_box rfl rfl) rfl (fun _ _ => ?_)
  refine sq_q (q_iface rfl Tryd.runUnderlying137 rfl) rfl ?_
  iterate 2 refine sqA rfl rfl ?_
  refine sqK [2, 3] rfl ?_
  refine sc_ret ?_
  refine se_then_ret ?_
  exact se_end (res2 Tryd.results22 rfl rfl) (fun w' hw => .inl ⟨hbad, ⟨_, _, _, rfl⟩, hw.eff⟩)
 have hc5 : 0 ≤ shn ∧ (c : Int) = shn := by omega
 refine sqK [0, 4, 8, 9, 13, 14, 15, 16, 35] rfl ?_
 refine sc_seq ?_
 refine scR ?_
 refine sqM rfl rfl ?_
 refine sq_q (q_decF (q_lss rfl rfl) (by omega)) rfl ?_
 refine sqK [0, 4, 8, 9, 13, 14, 15, 16, 35, 814] rfl ?_
 refine sc_cond_f rfl ?_
 refine scS ?_
 refine scK [0, 4, 8, 9, 13, 14, 15, 16, 35] rfl ?_
 refine sc_seq ?_
 refine scR ?_
 refine sqM rfl rfl ?_
 refine sq_split (q_gtr rfl rfl) rfl (fun h155_1 => ?_) (fun h155_1 => ?_)
 ·
  obtain ⟨q, hq, hq2⟩ : ∃ q, 18446744073709551615 / c = q ∧ q ≤ 18446744073709551615 := ⟨_, rfl, Nat.div_le_self _ _⟩
  refine sqM rfl rfl ?_
  refine sq_gy rfl rfl rfl ?_
  refine sqM rfl rfl ?_
  refine sq_gy rfl rfl rfl ?_
  refine sq_q (q_conv rfl Tryd.runUnderlying3 Tryd.runUnderlying23 hc1) rfl ?_
  refine sq_gy rfl rfl rfl ?_
  refine sq_q (q_quoN (a := 18446744073709551615) (b := c) (r := q) rfl rfl (by omega) hq (w_u64 (by omega) (by omega))) rfl ?_
  refine sq_gy rfl rfl rfl ?_
  refine sqM rfl rfl ?_
  refine sq_gy rfl rfl rfl ?_
  refine sq_q (q_conv rfl Tryd.runUnderlying3 Tryd.runUnderlying23 (w_u64 (by omega) (by omega))) rfl ?_
  refine sq_gy rfl rfl rfl ?_
  refine sq_split (q_lss rfl rfl) rfl (fun h155_8 => ?_) (fun h155_8 => ?_)
  ·
   have hbad := m2_quo hmode hq (by omega) hc5.2 (by omega)
   refine sqT rfl rfl rfl ?_
   refine sqK [0, 4, 8, 9, 13, 14, 15, 16, 35, 829] rfl ?_
   refine sc_cond_t rfl ?_
   refine scR ?_
   refine sqM rfl rfl ?_
   refine sq_q (q_iface rfl Tryd.runUnderlying3 rfl) rfl ?_
   refine sq_q (q_build (vs := [(0, _), (1, _), (2, _)]) ⟨rfl, rfl, rfl, rfl, rfl, rfl, trivial⟩ b139) rfl ?_
   refine sq_m (m_box rfl rfl) rfl (fun _ _ => ?_)
   refine sq_q (q_iface rfl Tryd.runUnderlying137 rfl) rfl ?_
   iterate 2 refine sqA rfl rfl ?_
   refine sqK [2, 3] rfl ?_
   refine sc_ret ?_
   refine se_then_ret ?_
   exact se_end (res2 Tryd.results22 rfl rfl) (fun w' hw => .inl ⟨hbad, ⟨_, _, _, rfl⟩, hw.eff⟩)
  have hmul := quo_mul (c := c) (by omega) hq (show (hd bs).shes ≤ q by omega)
  refine sqT rfl rfl rfl ?_
  refine sqK [0, 4, 8, 9, 13, 14, 15, 16, 35, 829] rfl ?_
  refine sc_cond_f rfl ?_
  refine scS ?_
  iterate 2 refine scK [0, 4, 8, 9, 13, 14, 15, 16, 35] rfl ?_
  exact nf_f2_true cx hG _ _ _ _ _ _ _ _ _ _ _ _ k hpr hbig hwd hfp hsb hmode hc1 hc4 hc5 hmul hk (by omega) hpb hpf0
 have hc0 : c = 0 := by omega
 have hmul : c * (hd bs).shes < 18446744073709551616 := by rw [hc0, Nat.zero_mul]; omega
 refine sqM rfl rfl ?_
 iterate 6 refine sq_gn rfl rfl rfl rfl ?_
 refine sqF rfl rfl rfl ?_
 refine sqK [0, 4, 8, 9, 13, 14, 15, 16, 35, 829] rfl ?_
 refine sc_cond_f rfl ?_
 refine scS ?_
 iterate 2 refine scK [0, 4, 8, 9, 13, 14, 15, 16, 35] rfl ?_
 exact nf_f2_true cx hG _ _ _ _ _ _ _ _ _ _ _ _ k hpr hbig hwd hfp hsb hmode hc1 hc4 hc5 hmul hk (by omega) hpb hpf0

theorem nf_f {g gu : Gx} {bs : List UInt8} {u : Value} {ms : MM} {w0 : World} (cx : Cx g gu bs u ms w0) (hG : StG g gu bs u ms w0) : StF g gu bs u ms w0 := by
 intro big wide fp sb cur N pb pcap shn nms f pad hpr hbig hwd hfp hsb a b c d hmode hpb hpf0
 cases wide
 ·
  exact nf_f_false cx hG big fp sb cur N pb pcap shn nms f pad hpr hbig hwd hfp hsb a b c d hmode hpb hpf0
 ·
  exact nf_f_true cx hG big fp sb cur N pb pcap shn nms f pad hpr hbig hwd hfp hsb a b c d hmode hpb hpf0

end Go.Proofs.YtgkjnkhoopcjgaaDoor
/- NewFile: the names; the parts joined. Conditions: the bytes lie in memory, at most 8192 of them. -/
namespace Go.Sx
theorem mem2_idx {f : Nat → Nat × Nat} {A : Nat → Nat → Obj} {B : Nat → Obj} {r : MM} : ∀ {n i : Nat}, i < n → (mem2 f A B n ++ r)[2 * (n - 1 - i)]? = some ((f i).1, A i (f i).2) := by
 intro n
 induction n with
 | zero => intro i h; omega
 | succ n ih =>
  intro i h
  by_cases hi : i = n
  ·
   subst hi
   have : 2 * (i + 1 - 1 - i) = 0 := by omega
   rw [this]; rfl
  ·
   have : 2 * (n + 1 - 1 - i) = 2 * (n - 1 - i) + 2 := by omega
   rw [this]
   exact ih (by omega)
theorem setK_gen {α β : Type} {k : List α → Option β} : ∀ {l : List α} {n : Nat} {v : α}, n < l.length → setK l n v k = k (l.set n v) := by
 intro l
 induction l generalizing k with
 | nil => intro n v h; simp at h
 | cons a r ih =>
  intro n v h
  cases n with
  | zero => rfl
  | succ n => exact ih (k := fun t => k (a :: t)) (by simpa using h)
theorem mem2_set {f : Nat → Nat × Nat} {A : Nat → Nat → Obj} {B : Nat → Obj} {o : Obj} {r : MM} : ∀ {n i : Nat}, i < n → (mem2 f A B n ++ r).set (2 * (n - 1 - i)) ((f i).1, o) = mem2 f (fun j => if j = i then fun _ => o else A j) B n ++ r := by
 intro n
 induction n with
 | zero => intro i h; omega
 | succ n ih =>
  intro i h
  by_cases hi : i = n
  ·
   subst hi
   have : 2 * (i + 1 - 1 - i) = 0 := by omega
   rw [this]
   simp only [mem2, List.cons_append, List.set_cons_zero, if_pos]
   rw [mem2_congr (f := f) (A := A) (A' := fun j => if j = i then fun _ => o else A j) (B := B) (B' := B)]
   intro j hj
   rw [if_neg (by omega)]
   exact ⟨rfl, rfl, rfl⟩
  ·
   have : 2 * (n + 1 - 1 - i) = 2 * (n - 1 - i) + 2 := by omega
   rw [this]
   simp only [mem2, List.cons_append, List.set_cons_succ]
   rw [ih (by omega), if_neg (by omega)]
theorem mem2_len {f : Nat → Nat × Nat} {A : Nat → Nat → Obj} {B : Nat → Obj} : ∀ {n : Nat}, (mem2 f A B n).length = 2 * n := by
 intro n
 induction n with
 | zero => rfl
 | succ n ih => simp [mem2, ih]; omega
theorem mem2_sub {f : Nat → Nat × Nat} {A : Nat → Nat → Obj} {B : Nat → Obj} : ∀ {n i : Nat}, i < n → [((f i).1, A i (f i).2), ((f i).2, B i)].Sublist (mem2 f A B n) := by
 intro n
 induction n with
 | zero => intro i h; omega
 | succ n ih =>
  intro i h
  by_cases hi : i = n
  ·
   subst hi
   exact .cons_cons _ (.cons_cons _ (List.nil_sublist _))
  ·
   exact .cons _ (.cons _ (ih (by omega)))
end Go.Sx
namespace Go.Proofs.YtgkjnkhoopcjgaaDoor
open Go.Sx
set_option maxRecDepth 100000
set_option maxHeartbeats 2000000

theorem smem_store {bs : List UInt8} {u : Value} {nm : Nat → List UInt8} {sf : Nat → Nat × Nat} {n i : Nat} {t : List UInt8} {r : MM} {β : Type} {k : MM → Option β} (hi : i < n) :
  setK (smem bs u nm sf n ++ r) (2 * (n - 1 - i)) ((sf i).1, sectO t (srow bs i) (sf i).2) k = k (smem bs u (fun j => if j = i then t else nm j) sf n ++ r) := by
 rw [setK_gen (by rw [List.length_append, smem, mem2_len]; omega), smem, mem2_set hi]
 congr 2
 refine mem2_congr fun j hj => ?_
 by_cases hji : j = i
 ·
  subst hji; simp
 ·
  simp [hji]
theorem smem_congr {bs : List UInt8} {u : Value} {nm nm' : Nat → List UInt8} {sf : Nat → Nat × Nat} {n : Nat} (h : ∀ j, j < n → nm j = nm' j) : smem bs u nm sf n = smem bs u nm' sf n :=
 mem2_congr fun j hj => by rw [h j hj]; exact ⟨rfl, rfl, rfl⟩
theorem smem_idx {bs : List UInt8} {u : Value} {nm : Nat → List UInt8} {sf : Nat → Nat × Nat} {n i : Nat} {r : MM} (hi : i < n) : (smem bs u nm sf n ++ r)[2 * (n - 1 - i)]? = some ((sf i).1, sectO (nm i) (srow bs i) (sf i).2) := mem2_idx hi
theorem nmL_get {bs : List UInt8} {n i : Nat} (h : i < n) (pad : List Value) : (nmL bs n ++ pad)[i]? = some (.int .u32 (((srow bs i).name : Nat) : Int)) := by
 rw [List.getElem?_append_left (by rw [nmL_length]; exact h)]
 simp [nmL, h]

/-- A call of Data. -/
theorem data_inv {g gu : Gx} {sp sb ty fl addr off size link info al es fs : Nat} {nm : ByteArray} {ra : Value} {C : List UInt8} {ms mm : MM} {w0 : World} {E : Nat → Prop} {fm : FM} {N : Nat} {x : Operand} {ts : Array TypeId} {d : Option Nat} {t : TypeId} {pos : String} {after : Array Edge} {gd : Option (Nat × Bool)}
  (hsz : size ≤ 9223372036854775807) (hC : C.length < 10485760) (hk : (ty = 8 ∧ C = []) ∨ (ty ≠ 8 ∧ IntKind.u32.wrap ((BitVec.ofInt IntKind.u32.bits (fl : Int) &&& BitVec.ofInt IntKind.u32.bits 2048).toNat : Int) = 0 ∧ pre nm zd = false ∧ RC g 81 (.pointer (some ⟨sb, 0, none⟩)) ms (RD g C)))
  (hs : ∀ p ∈ (sp, secO nm ty fl addr off size link info al es fs ra (.pointer (some ⟨sb, 0, none⟩))) :: (1, g.o) :: (0, gu.o) :: ms, p ∈ mm) (hnd : (((sp, secO nm ty fl addr off size link info al es fs ra (.pointer (some ⟨sb, 0, none⟩))) :: (1, g.o) :: (0, gu.o) :: ms).map Prod.fst).Nodup) (hx : fm.ev x = some (.pointer (some ⟨sp, 0, none⟩))) :
  Main Tryd.prog w0 E fm N mm ⟨d, .call { callee := .value (.func 16), args := #[x], argTypes := ts }, t, pos, after, gd⟩ (fun z : DRes => .tuple #[z.v0, z.v1]) (fun z => z.N) (fun z => z.nn ++ mm) (fun z => DOk C size N z ∧ N ≤ z.N) := by
 refine m_call (args1 hx) Tryd.call16 fun w hw => ?_
 refine (data16 hsz hC hk (fun p hp => hw.has p (hs p hp)) hnd).mono fun en w' ⟨y, hy, hen, hm⟩ => ⟨y, ⟨by rw [← hw.size]; exact hy, ?_⟩, hen, ?_⟩
 ·
  rw [← hm.size, ← hw.size]; exact hm.eff.size
 ·
  have hN := hm.size
  rw [← hN]
  have hnew : ∀ p ∈ y.nn, N ≤ p.1 := by
   rcases hy with ⟨_, b, hb, _, _, hn⟩ | ⟨_, _, _, hn⟩
   ·
    rw [hn]; intro p hp; rw [List.mem_singleton.1 hp, ← hw.size]; exact hb
   ·
    rw [hn]; intro p hp; cases hp
  have hndn : (y.nn.map Prod.fst).Nodup := by
   rcases hy with ⟨_, b, hb, _, _, hn⟩ | ⟨_, _, _, hn⟩ <;> rw [hn] <;> simp
  exact hw.call_new hm.eff y.nn (fun p hp => hm.has p (List.mem_append_left _ hp)) hnew hndn

theorem str42n {b c s n : Nat} {xs : List UInt8} {e : TypeId} {fr : Nat × Nat} {w : World} (hn : xs.length = n) (hb : w.heap[b]? = some (.cells (xs.map u8v).toArray e fr)) (hc : n ≤ c) (hx : n ≤ 9223372036854775806) (hs : s ≤ 9223372036854775807) :
  Calls Tryd.prog 42 #[.slice (some ⟨b, 0, none⟩) n c, .int .i64 (s : Nat)] w fun en w' => en = .returned (.tuple #[.string (strB ((if s < xs.length then textFrom (xs.drop s) else none).getD [])), .bool (if s < xs.length then textFrom (xs.drop s) else none).isSome]) ∧ Same w w' := by
 subst hn
 refine (str42 hb hc hx hs).mono fun en w' h => ?_
 rcases h with ⟨h1 | h1, h2, h3⟩ | ⟨h1, t, h2, h3, h4⟩
 ·
  rw [if_neg (by omega)]; exact ⟨h2, h3⟩
 ·
  rw [h1]; split <;> exact ⟨h2, h3⟩
 ·
  rw [if_pos h1, h2]; exact ⟨h3, h4⟩

/-- A good end. -/
theorem nf_ok {g gu : Gx} {bs : List UInt8} {u : Value} {ms lead : MM} {w0 w' : World} {fp N pb pcap cb scap : Nat} {f sf : Nat → Nat × Nat} {pad spad : List Value} {nm : Nat → List UInt8} (hg : Good bs) (hn : ∀ j, j < (hd bs).shnum → nm j = nameOf bs j) (hfp : w0.heap.size ≤ fp) (hfs : ∀ j, j < (hd bs).shnum → w0.heap.size ≤ (sf j).1 ∧ w0.heap.size ≤ (sf j).2) (hcb : w0.heap.size ≤ cb) (hpb : w0.heap.size ≤ pb) (hpf0 : ∀ j, j < (hd bs).phnum → w0.heap.size ≤ (f j).1 ∧ w0.heap.size ≤ (f j).2)
  (hw : Mem w0 E0 N (lead ++ (cb, .cells (ptrs sf (hd bs).shnum ++ spad).toArray 73 (0, 0)) :: (pb, .cells (ptrs f (hd bs).phnum ++ pad).toArray 89 (0, 0)) :: (fp, fileO bs (isBig bs) (hd bs).type (hd bs).machine (hd bs).entry (.slice (some ⟨cb, 0, none⟩) (hd bs).shnum scap) (.slice (some ⟨pb, 0, none⟩) (hd bs).phnum pcap)) :: (1, g.o) :: (0, gu.o) :: (smem bs u nm sf (hd bs).shnum ++ (pmem bs u f (hd bs).phnum ++ ms))) w') :
  NF bs u ((1, g.o) :: (0, gu.o) :: ms) w0 (.returned (.tuple #[.pointer (some ⟨fp, 0, none⟩), .nilIface])) w' := by
 refine .inr ⟨hg, ⟨fp, pb, pcap, pad, f, cb, scap, spad, sf, N⟩, rfl, ?_, ?_⟩
 ·
  intro p hp
  simp only [nfMem, List.mem_cons, List.mem_append] at hp
  rcases hp with rfl | rfl | rfl | hp | hp
  ·
   exact hfp
  ·
   exact hpb
  ·
   exact hcb
  ·
   obtain ⟨j, hj, rfl | rfl⟩ := mem2_of hp
   ·
    exact (hpf0 j hj).1
   ·
    exact (hpf0 j hj).2
  ·
   obtain ⟨j, hj, rfl | rfl⟩ := mem2_of hp
   ·
    exact (hfs j hj).1
   ·
    exact (hfs j hj).2
 rw [smem_congr hn] at hw
 refine (hw.sublist (List.sublist_append_right _ _)).perm ?_
 unfold nfMem
 dsimp only
 -- (fp) (pb) (cb) (pmem ++ smem) ++ (1) (0) ms ~ (cb) (pb) (fp) (1) (0) (smem ++ (pmem ++ ms))
 generalize smem bs u (nameOf bs) sf (hd bs).shnum = S
 generalize pmem bs u f (hd bs).phnum = P
 refine List.Perm.trans ?_ (List.perm_middle (l₁ := [(cb, _), (pb, _)]) (a := (fp, _)) (l₂ := (1, g.o) :: (0, gu.o) :: (S ++ (P ++ ms)))).symm
 refine .cons _ ?_
 refine List.Perm.trans (.swap _ _ _) (.cons _ (.cons _ ?_))
 have h1 : (P ++ S ++ (1, g.o) :: (0, gu.o) :: ms).Perm ((1, g.o) :: (0, gu.o) :: (P ++ S ++ ms)) := by
  refine List.Perm.trans List.perm_middle (.cons _ ?_)
  exact List.perm_middle
 refine h1.trans (.cons _ (.cons _ ?_))
 rw [← List.append_assoc S P ms]
 exact List.perm_append_comm.append_right ms

theorem sub_sec {g gu : Gx} {a b c d x y : Nat × Obj} {S r ms : MM} (hs : [x, y].Sublist S) (hr : ms.Sublist r) (hnd : ((a :: b :: c :: d :: (1, g.o) :: (0, gu.o) :: (S ++ r)).map Prod.fst).Nodup) :
  (∀ p ∈ x :: (1, g.o) :: (0, gu.o) :: y :: ms, p ∈ a :: b :: c :: d :: (1, g.o) :: (0, gu.o) :: (S ++ r)) ∧ ((x :: (1, g.o) :: (0, gu.o) :: y :: ms).map Prod.fst).Nodup ∧ ((y :: (1, g.o) :: ms).map Prod.fst).Nodup := by
 have hsub : ((1, g.o) :: (0, gu.o) :: ([x, y] ++ ms)).Sublist (a :: b :: c :: d :: (1, g.o) :: (0, gu.o) :: (S ++ r)) := .cons _ (.cons _ (.cons _ (.cons _ (.cons_cons _ (.cons_cons _ (hs.append hr))))))
 have hperm : (x :: (1, g.o) :: (0, gu.o) :: y :: ms).Perm ((1, g.o) :: (0, gu.o) :: ([x, y] ++ ms)) := (List.perm_middle (l₁ := [(1, g.o), (0, gu.o)]) (a := x) (l₂ := y :: ms)).symm
 have hn2 := (hsub.map Prod.fst).nodup hnd
 have hn3 := ((hperm.map Prod.fst).nodup_iff).2 hn2
 refine ⟨fun p hp => hsub.subset (hperm.subset hp), hn3, ?_⟩
 have h4 : ((1, g.o) :: y :: ms).Sublist (x :: (1, g.o) :: (0, gu.o) :: y :: ms) := .cons _ (.cons_cons _ (.cons _ (List.Sublist.refl _)))
 have h5 := (h4.map Prod.fst).nodup hn3
 exact (((List.Perm.swap (1, g.o) y ms).map Prod.fst).nodup_iff).2 h5
theorem pre_nil : pre (strB []) zd = false := by decide
theorem CutOk_len {bs : List UInt8} {a n : Nat} : CutOk bs a n ↔ n ≤ (cut bs a n).length := by
 unfold CutOk cut; simp; omega
def nmk (bs : List UInt8) (k j : Nat) : List UInt8 := if j < k then nameOf bs j else []

theorem nf_g {g gu : Gx} {bs : List UInt8} {u : Value} {ms : MM} {w0 : World} (cx : Cx g gu bs u ms w0) : StG g gu bs u ms w0 := by
 intro big fp N pb pcap nb ncap cb scap f sf pad npad spad hsec hbig hfp hfs hcb hpb hpf0
 obtain ⟨hl1, hl2, hl3, hl4, hl5, hl6, hl7, hl8, hl9, hl10, hl11⟩ := hd_lt bs
 have blen := cx.len
 have hcompn : 0 < (hd bs).shnum → Comp (srow bs (hd bs).names).flags = 0 := fun h0 => cx.plain hsec.head hsec.pcut hsec.ps hsec.scut _ (hsec.head.nm h0) (fun j hj => hsec.ss j (by have := hsec.head.nm h0; omega))
 refine sc_seq ?_
 refine scR ?_
 refine sqM rfl rfl ?_
 refine sq_q (q_nil rfl) rfl ?_
 refine sq_q (q_fieldj (j := 9) rfl Tryd.runUnderlying72 rfl Tryd.sizeOf67 rfl) rfl ?_
 refine sq_q (q_load1 rfl Tryd.isAgg67 (i := 3) rfl rfl) rfl ?_
 refine sq_q (q_len rfl Tryd.runUnderlying67) rfl ?_
 refine sq_split (q_eql rfl rfl) rfl (fun h202_5 => ?_) (fun h202_5 => ?_)
 ·
  have hs0 : (hd bs).shnum = 0 := by omega
  have hnamed : named bs = false := by simp [named, hs0]
  have hgood : Good bs := ⟨hsec.head, hsec.pcut, hsec.ps, hsec.scut, hsec.ss, fun h => by rw [hnamed] at h; cases h⟩
  refine sqK [8, 13, 14, 16, 41, 1206] rfl ?_
  refine sc_cond_t rfl ?_
  refine scR ?_
  refine sqM rfl rfl ?_
  iterate 2 refine sqA rfl rfl ?_
  refine sqK [2, 3] rfl ?_
  refine sc_ret ?_
  refine se_then_ret ?_
  exact se_end (res2 Tryd.results22 rfl rfl) (fun w' hw => nf_ok (lead := [_]) (nm := fun _ => []) hgood (fun j hj => by omega) hfp hfs hcb hpb hpf0 (hbig ▸ hw))
 have hs0 : 0 < (hd bs).shnum := by omega
 have hnm := hsec.head.nm hs0
 refine sqK [8, 13, 14, 16, 41, 1206] rfl ?_
 refine sc_cond_f rfl ?_
 refine scS ?_
 refine scK [8, 13, 14, 16, 41] rfl ?_
 refine sc_seq ?_
 refine scR ?_
 refine sqM rfl rfl ?_
 refine sq_split (q_eql rfl rfl) rfl (fun h204_1 => ?_) (fun h204_1 => ?_)
 ·
  have hnamed : named bs = false := by simp [named]; omega
  have hgood : Good bs := ⟨hsec.head, hsec.pcut, hsec.ps, hsec.scut, hsec.ss, fun h => by rw [hnamed] at h; cases h⟩
  refine sqK [8, 13, 14, 16, 41, 1209] rfl ?_
  refine sc_cond_t rfl ?_
  refine scR ?_
  refine sqM rfl rfl ?_
  iterate 2 refine sqA rfl rfl ?_
  refine sqK [2, 3] rfl ?_
  refine sc_ret ?_
  refine se_then_ret ?_
  exact se_end (res2 Tryd.results22 rfl rfl) (fun w' hw => nf_ok (lead := [_]) (nm := fun _ => []) hgood (fun j hj => by simp [nameOf, hnamed]) hfp hfs hcb hpb hpf0 (hbig ▸ hw))
 have hnamed : named bs = true := by simp [named]; omega
 refine sqK [8, 13, 14, 16, 41, 1209] rfl ?_
 refine sc_cond_f rfl ?_
 refine scS ?_
 refine scK [8, 13, 14, 16, 41] rfl ?_
 refine scR ?_
 refine sqM rfl rfl ?_
 refine sq_q (q_nil rfl) rfl ?_
 refine sq_q (q_fieldj (j := 9) rfl Tryd.runUnderlying72 rfl Tryd.sizeOf67 rfl) rfl ?_
 refine sq_q (q_load1 rfl Tryd.isAgg67 (i := 3) rfl rfl) rfl ?_
 refine sqM rfl rfl ?_
 refine sq_q (q_index (j := (hd bs).names) rfl rfl Tryd.runUnderlying67 Tryd.sizeOf73 ⟨by omega, by omega⟩ (by rw [Int.toNat_natCast]; omega)) rfl ?_
 refine sq_q (q_load1 rfl Tryd.isAgg73 (i := 1) rfl (ptrs_get hnm _)) rfl ?_
 refine sqA rfl rfl ?_
 refine sqK [8, 13, 14, 16, 41, 52] rfl ?_
 refine sc_seq ?_
 refine scR ?_
 refine sqM rfl rfl ?_
 refine sq_q (q_nil rfl) rfl ?_
 refine sq_q (q_fieldj (j := 0) rfl Tryd.runUnderlying84 rfl Tryd.sizeOf78 rfl) rfl ?_
 refine sq_q (q_fieldj (j := 1) rfl Tryd.runUnderlying78 rfl Tryd.sizeOf75 rfl) rfl ?_
 refine sq_q (q_load1 rfl Tryd.isAgg75 (i := 2 * ((hd bs).shnum - 1 - (hd bs).names) + 6) (smem_idx hnm) rfl) rfl ?_
 refine sq_split (q_neq rfl rfl) rfl (fun h207_5 => ?_) (fun h207_5 => ?_)
 ·
  have hbad : ¬ Good bs := fun hg => by have h9 := (hg.st hnamed).1; omega
  refine sqK [8, 13, 14, 16, 41, 52, 1223] rfl ?_
  refine sc_cond_t rfl ?_
  refine sc_seq ?_
  refine sc_draw [0, 1, 2, 3, 4, 5, 6, 7, 8, 9, 10, 11, 14, 12, 13, 15] [12] _ mixed (by kernel_rfl) (by kernel_rfl) (List.Subset.refl _) ?_
  iterate 3 refine drM rfl rfl rfl ?_
  refine dr_q rfl rfl (q_mul rfl rfl rfl) ?_
  refine dr_q rfl rfl (q_add rfl rfl rfl) ?_
  refine drM rfl rfl rfl ?_
  refine dr_q rfl rfl (q_nil rfl) ?_
  refine dr_q rfl rfl (q_fieldj (j := 0) rfl Tryd.runUnderlying84 rfl Tryd.sizeOf78 rfl) ?_
  refine dr_q rfl rfl (q_fieldj (j := 1) rfl Tryd.runUnderlying78 rfl Tryd.sizeOf75 rfl) ?_
  refine dr_q rfl rfl (q_load1 rfl Tryd.isAgg75 (i := 2 * ((hd bs).shnum - 1 - (hd bs).names) + 6) (smem_idx hnm) rfl) ?_
  refine dr_q rfl rfl (q_iface rfl Tryd.runUnderlying75 rfl) ?_
  refine dr_q rfl rfl (q_build (vs := [(0, _), (1, _), (2, _)]) ⟨rfl, rfl, rfl, rfl, rfl, rfl, trivial⟩ b139) ?_
  refine drA rfl rfl rfl ?_
  refine dr_m rfl rfl (m_box rfl rfl) (fun _ _ p hp => List.mem_cons_of_mem _ hp) (fun _ _ => ?_)
  refine dr_q rfl rfl (q_iface rfl Tryd.runUnderlying137 rfl) ?_
  refine drA rfl rfl rfl ?_
  refine dr_nil ?_
  refine se_seq ?_
  refine scK [2, 3] rfl ?_
  refine sc_ret ?_
  refine se_then_ret ?_
  exact se_end (res2 Tryd.results22 rfl rfl) (fun w' hw => .inl ⟨hbad, ⟨_, _, _, rfl⟩, hw.eff⟩)
 have hty : (srow bs (hd bs).names).type = 3 := by omega
 refine sqK [8, 13, 14, 16, 41, 52, 1223] rfl ?_
 refine sc_cond_f rfl ?_
 refine scS ?_
 refine scK [8, 13, 14, 41, 52] rfl ?_
 refine scR ?_
 refine sqM rfl rfl ?_
 refine sq_known fun hnd hge hlt => ?_
 obtain ⟨hsub1, hsub2, hsub3⟩ := sub_sec (mem2_sub (f := sf) (A := fun i => sectO [] (srow bs i)) (B := fun i => rdO u (srow bs i).off (srow bs i).size) hnm) (List.sublist_append_right (pmem bs u f (hd bs).phnum) ms) hnd
 refine sq_m (data_inv (g := g) (gu := gu) (C := texts bs) (size := (srow bs (hd bs).names).size) (by have := (hsec.ss _ hnm).2; omega) (by unfold texts cut; simp; omega) (.inr ⟨by omega, hcompn hs0, pre_nil, rc_piece cx.rc cx.len (by have := (hsec.ss _ hnm).1; omega) hsub3⟩) hsub1 hsub2 rfl) rfl (fun z hz => ?_)
 refine sqM rfl rfl ?_
 iterate 2 refine sq_q (q_extract rfl rfl) rfl ?_
 iterate 2 refine sqA rfl rfl ?_
 obtain ⟨v0, v1, nn, N2⟩ := z
 obtain ⟨hz, hN2⟩ := hz
 unfold DOk at hz
 dsimp only at hz hN2
 rcases hz with ⟨hcut, b, hb, rfl, rfl, rfl⟩ | ⟨hcut, rfl, ⟨t2, u2, rfl⟩, rfl⟩
 ·
  have hcut2 : CutOk bs (srow bs (hd bs).names).off (srow bs (hd bs).names).size := CutOk_len.2 hcut
  have htl : (texts bs).length = (srow bs (hd bs).names).size := cut_length hcut2
  have htl8 : (srow bs (hd bs).names).size ≤ 8192 := by rw [← htl]; unfold texts cut; simp; omega
  have htt : (texts bs).take (srow bs (hd bs).names).size = texts bs := List.take_of_length_le (by omega)
  rw [htt]
  refine sqK [8, 13, 14, 37, 41, 53] rfl ?_
  refine sc_seq ?_
  refine scR ?_
  refine sqM rfl rfl ?_
  refine sq_q (q_nil_neq_nil rfl Tryd.runUnderlying86) rfl ?_
  refine sqK [8, 13, 14, 37, 41, 53, 1244] rfl ?_
  refine sc_cond_f rfl ?_
  refine scS ?_
  refine scK [8, 13, 14, 41, 53] rfl ?_
  refine sc_seq ?_
  refine scR ?_
  refine sqM rfl rfl ?_
  refine sq_q (q_nil rfl) rfl ?_
  refine sq_q (q_fieldj (j := 9) rfl Tryd.runUnderlying72 rfl Tryd.sizeOf67 rfl) rfl ?_
  refine sq_q (q_load1 rfl Tryd.isAgg67 (i := 4) rfl rfl) rfl ?_
  refine sq_q (q_len rfl Tryd.runUnderlying67) rfl ?_
  refine sqM rfl rfl ?_
  refine sqK [8, 13, 14, 41, 53, 1249, 1250, 1251] rfl ?_
  refine sc_block ?_
  refine sc_loop (ι := Nat) (fun i => [(8, .pointer (some ⟨fp, 0, none⟩)), (13, .int .i64 ((hd bs).shoff : Int)), (14, .int .i64 ((hd bs).shes : Int)), (41, .slice (some ⟨nb, 0, none⟩) (hd bs).shnum ncap), (53, .slice (some ⟨b, 0, none⟩) (srow bs (hd bs).names).size (srow bs (hd bs).names).size), (1249, .slice (some ⟨cb, 0, none⟩) (hd bs).shnum scap), (1250, .int .i64 ((hd bs).shnum : Int)), (1251, .int .i64 (i : Int))]) (fun _ => N2) (fun i => (b, .cells ((texts bs).map u8v).toArray 5 (0, 0)) :: (nb, .cells (nmL bs (hd bs).shnum ++ npad).toArray 74 (0, 0)) :: (cb, .cells (ptrs sf (hd bs).shnum ++ spad).toArray 73 (0, 0)) :: (pb, .cells (ptrs f (hd bs).phnum ++ pad).toArray 89 (0, 0)) :: (fp, fileO bs big (hd bs).type (hd bs).machine (hd bs).entry (.slice (some ⟨cb, 0, none⟩) (hd bs).shnum scap) (.slice (some ⟨pb, 0, none⟩) (hd bs).phnum pcap)) :: (1, g.o) :: (0, gu.o) :: (smem bs u (nmk bs i) sf (hd bs).shnum ++ (pmem bs u f (hd bs).phnum ++ ms))) (fun i => i ≤ (hd bs).shnum ∧ ∀ j, j < i → (nameAt bs j).isSome = true) (fun i => (hd bs).shnum - i) 0 ⟨⟨Nat.zero_le _, fun j hj => absurd hj (Nat.not_lt_zero _)⟩, ⟨rfl, rfl, rfl, rfl, rfl, rfl, rfl, rfl, trivial⟩, rfl, fun _ h => h⟩ ?_
  intro i ⟨hi1, hi2⟩
  refine scR ?_
  refine sq_split (q_lss rfl rfl) rfl (fun h213_0 => ?_) (fun h213_0 => ?_)
  ·
   have hin : i < (hd bs).shnum := by omega
   obtain ⟨q1, q2, q3, q4, q5, q6, q7, q8, q9, q10⟩ : (srow bs i).Lt := srowAt_lt _ _ _ _
   refine sqZ ?_
   refine sc_seq ?_
   refine sc_cond_t rfl ?_
   refine scS ?_
   refine scK [8, 13, 14, 41, 53, 1249, 1250, 1251] rfl ?_
   refine sc_seq ?_
   refine sc_block ?_
   refine scR ?_
   refine sqM rfl rfl ?_
   refine sq_q (q_index (j := i) rfl rfl Tryd.runUnderlying67 Tryd.sizeOf73 ⟨by omega, by omega⟩ (by rw [Int.toNat_natCast]; omega)) rfl ?_
   refine sq_q (q_load1 rfl Tryd.isAgg73 (i := 2) rfl (ptrs_get hin _)) rfl ?_
   iterate 2 refine sqA rfl rfl ?_
   refine sqKR [8, 13, 14, 41, 53, 54, 55, 1249, 1250, 1251] rfl ?_
   refine sqA rfl rfl ?_
   refine sqKR [8, 13, 14, 41, 53, 54, 55, 1249, 1250, 1251] rfl ?_
   iterate 4 refine sqM rfl rfl ?_
   refine sq_q (q_index (j := i) rfl rfl Tryd.runUnderlying155 Tryd.sizeOf74 ⟨by omega, by omega⟩ (by rw [Int.toNat_natCast]; omega)) rfl ?_
   refine sq_q (q_load1 rfl Tryd.isAgg74 (i := 1) rfl (nmL_get hin _)) rfl ?_
   refine sq_q (q_conv rfl Tryd.runUnderlying74 Tryd.runUnderlying3 (w_i64 (by omega) (by omega))) rfl ?_
   refine sq_m (m_call (V := fun z : Option (List UInt8) => .tuple #[.string (strB (z.getD [])), .bool z.isSome]) (N' := fun _ => N2) (mm' := fun _ => (b, .cells ((texts bs).map u8v).toArray 5 (0, 0)) :: (nb, .cells (nmL bs (hd bs).shnum ++ npad).toArray 74 (0, 0)) :: (cb, .cells (ptrs sf (hd bs).shnum ++ spad).toArray 73 (0, 0)) :: (pb, .cells (ptrs f (hd bs).phnum ++ pad).toArray 89 (0, 0)) :: (fp, fileO bs big (hd bs).type (hd bs).machine (hd bs).entry (.slice (some ⟨cb, 0, none⟩) (hd bs).shnum scap) (.slice (some ⟨pb, 0, none⟩) (hd bs).phnum pcap)) :: (1, g.o) :: (0, gu.o) :: (smem bs u (nmk bs i) sf (hd bs).shnum ++ (pmem bs u f (hd bs).phnum ++ ms))) (F := fun z => z = nameAt bs i) (args2 rfl rfl) Tryd.call42 (fun w9 hw => (str42n (s := (srow bs i).name) htl (hw.get (i := 0) rfl) (Nat.le_refl _) (by omega) (by omega)).mono fun en w2 ⟨h8, h9⟩ => ⟨_, rfl, h8, hw.same h9⟩)) rfl (fun z hz => ?_)
   refine sqM rfl rfl ?_
   rcases z with _ | t
   ·
    have hna := hz.symm
    have hbad : ¬ Good bs := fun hg => by have h9 := (hg.st hnamed).2.2 i hin; rw [hna] at h9; cases h9
    iterate 2 refine sq_q (q_extract rfl rfl) rfl ?_
    refine sq_q (q_nil rfl) rfl ?_
    refine sq_q (q_fieldj (j := 0) rfl Tryd.runUnderlying84 rfl Tryd.sizeOf78 rfl) rfl ?_
    refine sq_q (q_fieldj (j := 0) rfl Tryd.runUnderlying78 rfl Tryd.sizeOf9 rfl) rfl ?_
    refine sq_m0 (m_store rfl rfl Tryd.sizeOf9 rfl (i := 2 * ((hd bs).shnum - 1 - i) + 7) (l' := [.string (strB (([] : List UInt8))), _, _, _, _, _, _, _, _, _, _, _, _, _, _]) (ms := (b, .cells ((texts bs).map u8v).toArray 5 (0, 0)) :: (nb, .cells (nmL bs (hd bs).shnum ++ npad).toArray 74 (0, 0)) :: (cb, .cells (ptrs sf (hd bs).shnum ++ spad).toArray 73 (0, 0)) :: (pb, .cells (ptrs f (hd bs).phnum ++ pad).toArray 89 (0, 0)) :: (fp, fileO bs big (hd bs).type (hd bs).machine (hd bs).entry (.slice (some ⟨cb, 0, none⟩) (hd bs).shnum scap) (.slice (some ⟨pb, 0, none⟩) (hd bs).phnum pcap)) :: (1, g.o) :: (0, gu.o) :: (smem bs u (fun j => if j = i then ([] : List UInt8) else nmk bs i j) sf (hd bs).shnum ++ (pmem bs u f (hd bs).phnum ++ ms))) (smem_idx hin) rfl (smem_store hin) (fun h => absurd h (Nat.not_lt.2 (hfs i hin).1))) (fun _ _ => ?_)
    refine sqA rfl rfl ?_
    refine sqKR [8, 13, 14, 41, 53, 54, 56, 1249, 1250, 1251] rfl ?_
    refine sqM rfl rfl ?_
    refine sq_q (q_not' rfl) rfl ?_
    refine sqK [8, 13, 14, 41, 53, 54, 1249, 1250, 1251, 1271] rfl ?_
    refine sc_cond_t rfl ?_
    refine sc_seq ?_
    refine sc_draw [0, 1, 2, 3, 4, 5, 6, 7, 8, 9, 10, 13, 11, 12, 14] [11] _ mixed (by kernel_rfl) (by kernel_rfl) (List.Subset.refl _) ?_
    iterate 3 refine drM rfl rfl rfl ?_
    refine dr_q rfl rfl (q_mul rfl rfl rfl) ?_
    refine dr_q rfl rfl (q_add rfl rfl rfl) ?_
    iterate 2 refine drM rfl rfl rfl ?_
    refine dr_q rfl rfl (q_index (j := i) rfl rfl Tryd.runUnderlying155 Tryd.sizeOf74 ⟨by omega, by omega⟩ (by rw [Int.toNat_natCast]; omega)) ?_
    refine dr_q rfl rfl (q_load1 rfl Tryd.isAgg74 (i := 1) rfl (nmL_get hin _)) ?_
    refine dr_q rfl rfl (q_iface rfl Tryd.runUnderlying74 rfl) ?_
    refine dr_q rfl rfl (q_build (vs := [(0, _), (1, _), (2, _)]) ⟨rfl, rfl, rfl, rfl, rfl, rfl, trivial⟩ b139) ?_
    refine drA rfl rfl rfl ?_
    refine dr_m rfl rfl (m_box rfl rfl) (fun _ _ p hp => List.mem_cons_of_mem _ hp) (fun _ _ => ?_)
    refine dr_q rfl rfl (q_iface rfl Tryd.runUnderlying137 rfl) ?_
    refine drA rfl rfl rfl ?_
    refine dr_nil ?_
    refine se_seq ?_
    refine scK [2, 3] rfl ?_
    refine sc_ret ?_
    refine se_block_ret ?_
    iterate 2 refine se_then_ret ?_
    refine se_block_ret ?_
    refine se_then_ret ?_
    exact se_end (res2 Tryd.results22 rfl rfl) (fun w' hw => .inl ⟨hbad, ⟨_, _, _, rfl⟩, hw.eff⟩)
   have hna := hz.symm
   iterate 2 refine sq_q (q_extract rfl rfl) rfl ?_
   refine sq_q (q_nil rfl) rfl ?_
   refine sq_q (q_fieldj (j := 0) rfl Tryd.runUnderlying84 rfl Tryd.sizeOf78 rfl) rfl ?_
   refine sq_q (q_fieldj (j := 0) rfl Tryd.runUnderlying78 rfl Tryd.sizeOf9 rfl) rfl ?_
   refine sq_m0 (m_store rfl rfl Tryd.sizeOf9 rfl (i := 2 * ((hd bs).shnum - 1 - i) + 7) (l' := [.string (strB (t)), _, _, _, _, _, _, _, _, _, _, _, _, _, _]) (ms := (b, .cells ((texts bs).map u8v).toArray 5 (0, 0)) :: (nb, .cells (nmL bs (hd bs).shnum ++ npad).toArray 74 (0, 0)) :: (cb, .cells (ptrs sf (hd bs).shnum ++ spad).toArray 73 (0, 0)) :: (pb, .cells (ptrs f (hd bs).phnum ++ pad).toArray 89 (0, 0)) :: (fp, fileO bs big (hd bs).type (hd bs).machine (hd bs).entry (.slice (some ⟨cb, 0, none⟩) (hd bs).shnum scap) (.slice (some ⟨pb, 0, none⟩) (hd bs).phnum pcap)) :: (1, g.o) :: (0, gu.o) :: (smem bs u (fun j => if j = i then t else nmk bs i j) sf (hd bs).shnum ++ (pmem bs u f (hd bs).phnum ++ ms))) (smem_idx hin) rfl (smem_store hin) (fun h => absurd h (Nat.not_lt.2 (hfs i hin).1))) (fun _ _ => ?_)
   refine sqA rfl rfl ?_
   refine sqKR [8, 13, 14, 41, 53, 54, 56, 1249, 1250, 1251] rfl ?_
   refine sqM rfl rfl ?_
   refine sq_q (q_not' rfl) rfl ?_
   refine sqK [8, 13, 14, 41, 53, 54, 1249, 1250, 1251, 1271] rfl ?_
   refine sc_cond_f rfl ?_
   refine sc_skip ?_
   refine se_block ?_
   refine se_seq ?_
   refine scK [8, 13, 14, 41, 53, 1249, 1250, 1251] rfl ?_
   refine sc_region ?_
   refine sq_q (q_add rfl rfl (w_i64 (by omega) (by omega))) rfl ?_
   refine sqM rfl rfl ?_
   refine sq_nil ?_
   refine se_loop (i + 1) (by omega) ⟨by omega, fun j hj => (by
    by_cases hji : j = i
    ·
     subst hji; rw [hna]; rfl
    ·
     exact hi2 j (by omega))⟩ ⟨rfl, rfl, rfl, rfl, rfl, rfl, rfl, rfl, trivial⟩ (fun w h => ?_)
   rw [smem_congr (nm' := fun j => if j = i then t else nmk bs i j) fun j hj => (by
    by_cases hji : j = i
    ·
     subst hji; simp [nmk, nameOf, hnamed, hna]
    ·
     by_cases hj2 : j < i
     ·
      simp [nmk, hji, hj2, show j < i + 1 by omega]
     ·
      simp [nmk, hji, hj2, show ¬ j < i + 1 by omega])]
   exact h
  have hdone : i = (hd bs).shnum := by omega
  have hgood : Good bs := ⟨hsec.head, hsec.pcut, hsec.ps, hsec.scut, hsec.ss, fun _ => ⟨hty, hcut2, hdone ▸ hi2⟩⟩
  refine sqZ ?_
  refine sc_seq ?_
  refine sc_cond_f rfl ?_
  refine sc_exit ?_
  iterate 2 refine se_then_exit ?_
  refine se_block_hit ?_
  refine se_seq ?_
  refine scK [8] rfl ?_
  refine scR ?_
  refine sqM rfl rfl ?_
  iterate 2 refine sqA rfl rfl ?_
  refine sqK [2, 3] rfl ?_
  refine sc_ret ?_
  exact se_end (res2 Tryd.results22 rfl rfl) (fun w' hw => nf_ok (lead := [_, _]) (nm := nmk bs i) hgood (fun j hj => by simp [nmk, hdone, hj]) hfp hfs hcb hpb hpf0 (hbig ▸ hw))
 have hbad : ¬ Good bs := fun hg => by have h9 := CutOk_len.1 (hg.st hnamed).2.1; unfold texts at hcut; omega
 refine sqK [8, 13, 14, 37, 41, 53] rfl ?_
 refine sc_seq ?_
 refine scR ?_
 refine sqM rfl rfl ?_
 refine sq_q (q_iface_neq_nil rfl rfl Tryd.runUnderlying86) rfl ?_
 refine sqK [8, 13, 14, 37, 41, 53, 1244] rfl ?_
 refine sc_cond_t rfl ?_
 refine scR ?_
 refine sqM rfl rfl ?_
 iterate 2 refine sqA rfl rfl ?_
 refine sqK [2, 3] rfl ?_
 refine sc_ret ?_
 refine se_then_ret ?_
 exact se_end (res2 Tryd.results22 rfl rfl) (fun w' hw => .inl ⟨hbad, ⟨_, _, _, rfl⟩, hw.eff⟩)

/-- ████ NewFile ████ -/
theorem newFile {g gu : Gx} {bs : List UInt8} {u : Value} {ms : MM} {w0 : World} (cx : Cx g gu bs u ms w0) : Calls Tryd.prog 22 #[.iface 117 u] w0 (NF bs u ((1, g.o) :: (0, gu.o) :: ms) w0) := by
 have hG := nf_g cx
 have hF := nf_f cx hG
 have hE2 : StE2 g gu bs u ms w0 := by
  intro big wide fp sb cur N phn shn nms k hchk hbig hwd hfp hsb a b c d e hmode hk
  cases wide
  ·
   exact nf_e2_false cx hF big fp sb cur N phn shn nms k hchk hbig hwd hfp hsb a b c d e hmode hk
  ·
   exact nf_e2_true cx hF big fp sb cur N phn shn nms k hchk hbig hwd hfp hsb a b c d e hmode hk
 exact nf_a cx (nf_b cx (nf_c cx (nf_d cx (nf_e1 cx hE2))))

end Go.Proofs.YtgkjnkhoopcjgaaDoor
/- open: the bytes are copied and read as a file. Conditions: the bytes lie in memory, at most 8192 of them. -/
namespace Go.Proofs.YtgkjnkhoopcjgaaDoor
open Go.Sx
set_option maxRecDepth 100000
set_option maxHeartbeats 1000000

/-- A slice of bytes, its bytes in the listed blocks. -/
def ByIn (mm : MM) (v : Value) (xs : List UInt8) : Prop :=
 (xs = [] ∧ ∃ ad c, v = .slice ad 0 c) ∨ ∃ b o c l e fr, v = .slice (some ⟨b, o, none⟩) xs.length c ∧ xs.length ≤ c ∧ c ≤ 9223372036854775807 ∧ (b, .cells l.toArray e fr) ∈ mm ∧ At l o xs ∧ o + xs.length ≤ l.length ∧ 0 < xs.length
theorem ByIn.mono {mm ms : MM} {v : Value} {xs : List UInt8} (h : ByIn mm v xs) (hs : List.Subset mm ms) : ByIn ms v xs := by
 rcases h with h | ⟨b, o, c, l, e, fr, h1, h2, h3, h4, h5⟩
 ·
  exact .inl h
 ·
  exact .inr ⟨b, o, c, l, e, fr, h1, h2, h3, hs h4, h5⟩

/-- append(nil, nothing...): nil. -/
theorem q_app0 {P : Program} {fm : FM} {mm : MM} {d : Option Nat} {ty : TypeId} {pos : String} {after : Array Edge} {gd : Option (Nat × Bool)} {t e : TypeId} {i : TypeInfo} {s y : Operand} {ad : Option Addr} {c : Nat}
  (hs : fm.ev s = some (.slice none 0 0)) (hy : fm.ev y = some (.slice ad 0 c)) (ht : P.underlying t = some (.slice e)) (hi : P.info? e = some i) :
  Quiet P fm mm ⟨d, .call { callee := .builtin .append, args := #[s, y], argTypes := #[t, t] }, ty, pos, after, gd⟩ (.slice none 0 0) :=
 q_run fun ρ hρ w _ => by
  have hr : (Builtin.append_ #[t, t] ty #[.slice none 0 0, .slice ad 0 c]).run P w = .ok (.slice none 0 0) w := by
   cases ad with
   | none => simp [Builtin.append_, run_underlying ht, sizeOf, typeInfo, hi, Builtin.lenOf, run_firstCells_none]
   | some a =>
    have hf := run_firstCells_some (P := P) w i.size 0 a 0 c [] (by simp) (by simp)
    simp [Builtin.append_, run_underlying ht, sizeOf, typeInfo, hi, Builtin.lenOf, hf]
  simp [execOp, resolve, invoke, builtin, hρ _ _ hs, hρ _ _ hy, hr]

structure NfX where
 v0 : Value
 v1 : Value
 nn : MM
 N : Nat
/-- A call of NewFile. -/
theorem nf_inv {g gu : Gx} {bs : List UInt8} {u : Value} {ms mm : MM} {w0 : World} {E : Nat → Prop} {fm : FM} {N : Nat} {x : Operand} {ts : Array TypeId} {d : Option Nat} {ty : TypeId} {pos : String} {after : Array Edge} {gd : Option (Nat × Bool)}
  (hrc : RC g 117 u ms (RD g bs)) (hlen : bs.length ≤ 8192) (hpl : Plain bs) (hs : ((1, g.o) :: (0, gu.o) :: ms).Sublist mm) (hx : fm.ev x = some (.iface 117 u)) :
  Main Tryd.prog w0 E fm N mm ⟨d, .call { callee := .value (.func 22), args := #[x], argTypes := ts }, ty, pos, after, gd⟩ (fun z : NfX => .tuple #[z.v0, z.v1]) (fun z => z.N) (fun z => z.nn ++ mm)
   (fun z => N ≤ z.N ∧ ((¬ Good bs ∧ (∃ t x, z.v1 = .iface t x) ∧ z.nn = []) ∨ (Good bs ∧ ∃ q : NFx, z.v0 = .pointer (some ⟨q.fp, 0, none⟩) ∧ z.v1 = .nilIface ∧ z.nn = nfMem bs u q ∧ ∀ p ∈ z.nn, N ≤ p.1))) := by
 refine m_call (args1 hx) Tryd.call22 fun w hw => ?_
 have hsz := hw.size
 refine (newFile (g := g) (gu := gu) ⟨hrc, hlen, hpl, (hs.map Prod.fst).nodup hw.nd, fun p hp => hw.has p (hs.subset hp)⟩).mono fun en w' h => ?_
 rcases h with ⟨hg, ⟨v, t, x, hen⟩, he⟩ | ⟨hg, q, hen, hfr, hm⟩
 ·
  refine ⟨⟨v, _, [], w'.heap.size⟩, ⟨by rw [← hsz]; exact he.size, .inl ⟨hg, ⟨t, x, rfl⟩, rfl⟩⟩, hen, ?_⟩
  exact hw.call_new he [] (fun p hp => by cases hp) (fun p hp => by cases hp) List.nodup_nil
 ·
  have hnn : ∀ p ∈ nfMem bs u q, N ≤ p.1 := fun p hp => by rw [← hsz]; exact hfr p hp
  refine ⟨⟨_, _, nfMem bs u q, w'.heap.size⟩, ⟨by rw [← hsz]; exact hm.eff.size, .inr ⟨hg, q, rfl, rfl, rfl, hnn⟩⟩, hen, ?_⟩
  refine hw.call_new hm.eff (nfMem bs u q) (fun p hp => hm.has p (List.mem_append_left _ hp)) hnn ?_
  have := hm.nd
  rw [List.map_append] at this
  exact (List.nodup_append.1 this).1

/-- How open ends. -/
def OpR (bs : List UInt8) (w : World) (en : Ending) (w' : World) : Prop :=
 (¬ Good bs ∧ (∃ v, en = .returned (.tuple #[v, .bool false])) ∧ Eff E0 w w') ∨
  (Good bs ∧ ∃ (q : NFx) (u : Value) (ms : MM), Own bs u ms ∧ en = .returned (.tuple #[.pointer (some ⟨q.fp, 0, none⟩), .bool true]) ∧ (∀ p ∈ nfMem bs u q ++ ms, w.heap.size ≤ p.1) ∧ Eff E0 w w' ∧ Has (nfMem bs u q ++ ms) w' ∧ ((nfMem bs u q ++ ms).map Prod.fst).Nodup)

theorem t5_size : Tryd.t5.size = 1 := by kernel_rfl
theorem t5_bytes : Tryd.t5.bytes = 1 := by kernel_rfl
theorem open_fresh {S : MM} {n m : Nat} {o : Obj} (h : ∀ p ∈ S, n ≤ p.1) (hm : m ≤ n) : ∀ p ∈ S ++ [(m, o)], m ≤ p.1 := fun p hp => by
 rcases List.mem_append.1 hp with hp | hp
 ·
  exact Nat.le_trans hm (h p hp)
 ·
  rw [List.mem_singleton.1 hp]; exact Nat.le_refl _
theorem open_sub {S r : MM} {a b c : Nat × Obj} : (S ++ [c]).Sublist (S ++ a :: b :: c :: r) := (List.Sublist.refl S).append (.cons _ (.cons _ (.cons_cons _ (List.nil_sublist _))))
theorem open1 {g gu : Gx} {bs : List UInt8} {ab ao c : Nat} {l : List Value} {e : TypeId} {fr : Nat × Nat} {w : World} (hlen : bs.length ≤ 8192) (hpl : Plain bs) (hpos : 0 < bs.length) (hat : At l ao bs) (hl : ao + bs.length ≤ l.length)
  (hms : Has ((1, g.o) :: (0, gu.o) :: [(ab, .cells l.toArray e fr)]) w) (hnd : (((1, g.o) :: (0, gu.o) :: [(ab, .cells l.toArray e fr)]).map Prod.fst).Nodup) :
  Calls Tryd.prog 15 #[.slice (some ⟨ab, ao, none⟩) bs.length c] w (OpR bs w) := by
 have hsz : 1 < w.heap.size := hms.below (1, g.o) (by simp)
 refine enter (E := E0) Tryd.func15 rfl Tryd.ntmps15 (Nat.le_of_ble_eq_true rfl) [(0, _)] (AOk.get («as» := [_]) ⟨rfl, trivial⟩) ((1, g.o) :: (0, gu.o) :: [(ab, .cells l.toArray e fr)]) hms hnd ?_
 refine scR ?_
 iterate 2 refine sqA rfl rfl ?_
 refine sqKR [0] rfl ?_
 refine sqM rfl rfl ?_
 refine sq_m (m_app_nil (j := 2) (i := Tryd.t5) (z := .int .u8 0) (news := bs.map u8v) rfl rfl rfl Tryd.underlying22 (by kernel_rfl) (by kernel_rfl) (by kernel_rfl) (by rw [t5_size, Nat.mul_one, ← hat]) (by rw [t5_size]; omega) hpos (by rw [t5_bytes]; omega) (by omega)) rfl (fun y hy => ?_)
 refine sq_q (q_iface rfl Tryd.runUnderlying117 rfl) rfl ?_
 refine sq_mem (fun _ h => h.perm (ms := (1, g.o) :: (0, gu.o) :: (w.heap.size, .cells (bs.map u8v ++ y.pad).toArray 5 (0, 0)) :: [(ab, .cells l.toArray e fr)]) (List.perm_middle (l₁ := [(1, g.o), (0, gu.o)])).symm.symm) ?_
 refine sq_m (nf_inv (g := g) (gu := gu) (bs := bs) (ms := [(w.heap.size, .cells (bs.map u8v ++ y.pad).toArray 5 (0, 0))]) (rc_own (.inr ⟨_, y.cap, y.pad, _, _, by omega, hy.1, hy.2.1, rfl, rfl⟩) (by omega)) hlen hpl (.cons_cons _ (.cons_cons _ (.cons_cons _ (List.nil_sublist _)))) rfl) rfl (fun z hz => ?_)
 refine sqM rfl rfl ?_
 iterate 2 refine sq_q (q_extract rfl rfl) rfl ?_
 iterate 2 refine sqA rfl rfl ?_
 obtain ⟨v0, v1, nn, N2⟩ := z
 dsimp only at hz
 obtain ⟨hN2, ⟨hg, ⟨t, x, rfl⟩, rfl⟩ | ⟨hg, q, rfl, rfl, rfl, hfr⟩⟩ := hz
 ·
  have _tok := trivial
  refine sqK [4, 5] rfl ?_
  refine sc_seq ?_
  refine sc_draw [0, 1, 2, 3, 4] [] _ mixed (by kernel_rfl) (by kernel_rfl) (List.Subset.refl _) ?_
  iterate 2 refine drM rfl rfl rfl ?_
  refine dr_q rfl rfl (q_iface_eql_nil rfl rfl Tryd.runUnderlying86) ?_
  iterate 2 refine drA rfl rfl rfl ?_
  refine dr_nil ?_
  refine se_seq ?_
  refine scK [2, 3] rfl ?_
  refine sc_ret ?_
  exact se_end (res2 Tryd.results15 rfl rfl) (fun w' hw => .inl ⟨hg, ⟨_, rfl⟩, hw.eff⟩)
 refine sqK [4, 5] rfl ?_
 refine sc_seq ?_
 refine sc_draw [0, 1, 2, 3, 4] [] _ mixed (by kernel_rfl) (by kernel_rfl) (List.Subset.refl _) ?_
 iterate 2 refine drM rfl rfl rfl ?_
 refine dr_q rfl rfl (q_nil_eql_nil rfl Tryd.runUnderlying86) ?_
 iterate 2 refine drA rfl rfl rfl ?_
 refine dr_nil ?_
 refine se_seq ?_
 refine scK [2, 3] rfl ?_
 refine sc_ret ?_
 exact se_end (res2 Tryd.results15 rfl rfl) (fun w' hw => .inr ⟨hg, q, _, [(w.heap.size, .cells (bs.map u8v ++ y.pad).toArray 5 (0, 0))], .inr ⟨_, y.cap, y.pad, _, _, by omega, hy.1, hy.2.1, rfl, rfl⟩, rfl, open_fresh hfr (Nat.le_succ _), hw.eff, fun p hp => hw.has p (open_sub.subset hp), (open_sub.map Prod.fst).nodup hw.nd⟩)

theorem open_nd0 {S r : MM} (h : ((S ++ r).map Prod.fst).Nodup) : ((S ++ []).map Prod.fst).Nodup := by
 rw [List.append_nil]
 exact ((List.sublist_append_left S r).map Prod.fst).nodup h
theorem open0 {g gu : Gx} {ad : Option Addr} {c : Nat} {w : World} (hpl : Plain []) (hms : Has ((1, g.o) :: (0, gu.o) :: []) w) (hnd : (((1, g.o) :: (0, gu.o) :: []).map Prod.fst).Nodup) :
  Calls Tryd.prog 15 #[.slice ad 0 c] w (OpR [] w) := by
 refine enter (E := E0) Tryd.func15 rfl Tryd.ntmps15 (Nat.le_of_ble_eq_true rfl) [(0, _)] (AOk.get («as» := [_]) ⟨rfl, trivial⟩) ((1, g.o) :: (0, gu.o) :: []) hms hnd ?_
 refine scR ?_
 iterate 2 refine sqA rfl rfl ?_
 refine sqKR [0] rfl ?_
 refine sqM rfl rfl ?_
 refine sq_q (q_app0 rfl rfl Tryd.underlying22 (i := Tryd.t5) (by kernel_rfl)) rfl ?_
 refine sq_q (q_iface rfl Tryd.runUnderlying117 rfl) rfl ?_
 refine sq_m (nf_inv (g := g) (gu := gu) (bs := []) (ms := []) (rc_own (.inl ⟨rfl, rfl, rfl⟩) (by simp)) (by simp) hpl (List.Sublist.refl _) rfl) rfl (fun z hz => ?_)
 refine sqM rfl rfl ?_
 iterate 2 refine sq_q (q_extract rfl rfl) rfl ?_
 iterate 2 refine sqA rfl rfl ?_
 obtain ⟨v0, v1, nn, N2⟩ := z
 dsimp only at hz
 obtain ⟨hN2, ⟨hg, ⟨t, x, rfl⟩, rfl⟩ | ⟨hg, q, rfl, rfl, rfl, hfr⟩⟩ := hz
 ·
  have _tok := trivial
  refine sqK [4, 5] rfl ?_
  refine sc_seq ?_
  refine sc_draw [0, 1, 2, 3, 4] [] _ mixed (by kernel_rfl) (by kernel_rfl) (List.Subset.refl _) ?_
  iterate 2 refine drM rfl rfl rfl ?_
  refine dr_q rfl rfl (q_iface_eql_nil rfl rfl Tryd.runUnderlying86) ?_
  iterate 2 refine drA rfl rfl rfl ?_
  refine dr_nil ?_
  refine se_seq ?_
  refine scK [2, 3] rfl ?_
  refine sc_ret ?_
  exact se_end (res2 Tryd.results15 rfl rfl) (fun w' hw => .inl ⟨hg, ⟨_, rfl⟩, hw.eff⟩)
 refine sqK [4, 5] rfl ?_
 refine sc_seq ?_
 refine sc_draw [0, 1, 2, 3, 4] [] _ mixed (by kernel_rfl) (by kernel_rfl) (List.Subset.refl _) ?_
 iterate 2 refine drM rfl rfl rfl ?_
 refine dr_q rfl rfl (q_nil_eql_nil rfl Tryd.runUnderlying86) ?_
 iterate 2 refine drA rfl rfl rfl ?_
 refine dr_nil ?_
 refine se_seq ?_
 refine scK [2, 3] rfl ?_
 refine sc_ret ?_
 exact se_end (res2 Tryd.results15 rfl rfl) (fun w' hw => .inr ⟨hg, q, _, [], .inl ⟨rfl, rfl, rfl⟩, rfl, fun p hp => hfr p (by simpa using hp), hw.eff, fun p hp => hw.has p (List.mem_append_left _ (by simpa using hp)), open_nd0 hw.nd⟩)

theorem open15 {g gu : Gx} {bs : List UInt8} {v : Value} {mm : MM} {w : World} (hlen : bs.length ≤ 8192) (hpl : Plain bs) (hv : ByIn mm v bs) (hmm : Has mm w) (h1 : w.heap[1]? = some g.o) (h0 : w.heap[0]? = some gu.o) (hne : ∀ p ∈ mm, p.1 ≠ 1 ∧ p.1 ≠ 0) : Calls Tryd.prog 15 #[v] w (OpR bs w) := by
 rcases hv with ⟨rfl, ad, c, rfl⟩ | ⟨b, o, c, l, e, fr, rfl, h2, h3, h4, h5, h6, h7⟩
 ·
  refine open0 hpl (HasL.has ⟨h1, h0, trivial⟩) (by simp)
 ·
  have := hne _ h4
  refine open1 (l := l) (e := e) (fr := fr) hlen hpl h7 h5 h6 (HasL.has ⟨h1, h0, hmm _ h4, trivial⟩) (nodup3 (by omega) (Ne.symm this.1) (Ne.symm this.2))

end Go.Proofs.YtgkjnkhoopcjgaaDoor
/- Rows that grow from nil: an append to nil or to a row of one's own. No condition. -/
namespace Go.Sx
open Go.Proofs.YtgkjnkhoopcjgaaDoor
variable {P : Program} {w0 : World} {E : Nat → Prop} {fm : FM} {N : Nat} {mm : MM} {d : Option Nat} {ty : TypeId} {pos : String} {after : Array Edge} {gd : Option (Nat × Bool)}

/-- A row of n elements, nil or a block of the call's own. -/
def RowOk (m : Nat) (e : TypeId) (k : Nat) (xs : List Value) (n : Nat) (v : Value) (R : MM) : Prop :=
  xs.length = n * k ∧ ((n = 0 ∧ v = .slice none 0 0 ∧ R = []) ∨ ∃ b cap pad, v = .slice (some ⟨b, 0, none⟩) n cap ∧ R = [(b, .cells (xs ++ pad).toArray e (0, 0))] ∧ n ≤ cap ∧ cap ≤ maxLen ∧ pad.length = (cap - n) * k ∧ m ≤ b)

structure Ry where
  v : Value
  R : MM
  N : Nat

/-- append(row, x): one element, out of a literal's block. -/
theorem m_app_any {t e : TypeId} {i : TypeInfo} {z : Value} {s y : Operand} {n k lb : Nat} {v : Value} {xs news : List Value} {R rest : MM} {out : MM → MM} {e2 : TypeId} {fr : Nat × Nat}
    (hR : RowOk w0.heap.size e k xs n v R) (hs : fm.ev s = some v) (hy : fm.ev y = some (.slice (some ⟨lb, 0, none⟩) 1 1)) (hp : mm.Perm ((lb, .cells news.toArray e2 fr) :: (R ++ rest))) (ho : ∀ R', (R' ++ rest).Perm (out R'))
    (ht : P.underlying t = some (.slice e)) (hi : P.info? e = some i) (hz : i.zero = some z) (hk : i.size = k) (hzs : z.cells.size = k) (hnews : news.length = k) (h1 : news.all (·.oneCell') = true)
    (h63 : n + 1 ≤ 140737488355328) (hb : (n + 1) * i.bytes ≤ 140737488355328) (hE : ∀ b, w0.heap.size ≤ b → b < w0.heap.size → E b) :
    Main P w0 E fm N mm ⟨d, .call { callee := .builtin .append, args := #[s, y], argTypes := #[t, t] }, ty, pos, after, gd⟩ (fun q : Ry => q.v) (fun q => q.N) (fun q => out q.R) (fun q => N ≤ q.N ∧ RowOk w0.heap.size e k (xs ++ news) (n + 1) q.v q.R) := by
  subst hk
  obtain ⟨hx, hR⟩ := hR
  have hnl : (xs ++ news).length = (n + 1) * i.size := by rw [List.length_append, hx, hnews, Nat.succ_mul]
  have htake : (news.drop 0).take (1 * i.size) = news := by rw [List.drop_zero, Nat.one_mul, ← hnews, List.take_length]
  rcases hR with ⟨rfl, rfl, rfl⟩ | ⟨b, cap, pad, rfl, rfl, h2, h3, h4, h5⟩
  · obtain rfl : xs = [] := List.length_eq_zero_iff.1 (by rw [hx]; simp)
    have key := m_app_nil (P := P) (w0 := w0) (E := E) (fm := fm) (N := N) (mm := (lb, .cells news.toArray e2 fr) :: rest) (d := d) (ty := ty) (pos := pos) (after := after) (g := gd) (j := 0) hs hy rfl ht hi hz hzs htake (by rw [Nat.one_mul, hnews]; omega) (Nat.zero_lt_one) (by simpa using hb) (by omega)
    intro ρ hρ w hw
    have hw' : Mem w0 E N ((lb, .cells news.toArray e2 fr) :: rest) w := hw.perm hp.symm
    refine (key ρ hρ w hw').mono fun u w' ⟨x, ⟨f1, f2, f3⟩, hu, hm⟩ => ?_
    refine ⟨⟨_, [(N, .cells (news ++ x.pad).toArray e (0, 0))], N + 1⟩, ⟨Nat.le_succ N, hnl, .inr ⟨N, x.cap, x.pad, rfl, rfl, f1, f2, f3, hw.ge⟩⟩, hu, ?_⟩
    exact (hm.sublist (.cons_cons _ (.cons _ (List.Sublist.refl _)))).perm (ho [(N, .cells (news ++ x.pad).toArray e (0, 0))]).symm
  · have key := m_app (P := P) (w0 := w0) (E := E) (fm := fm) (N := N) (mm := (lb, .cells news.toArray e2 fr) :: (b, .cells (xs ++ pad).toArray e (0, 0)) :: rest) (ms := (lb, .cells news.toArray e2 fr) :: rest) (d := d) (ty := ty) (pos := pos) (after := after) (g := gd) (j0 := 1) (j := 0) hs hy rfl rfl rfl ht hi hz hzs hx h4 h2 h3 htake (by rw [Nat.one_mul, hnews]; omega) h1 h63 hb (hE b h5)
    intro ρ hρ w hw
    have hw' : Mem w0 E N ((lb, .cells news.toArray e2 fr) :: (b, .cells (xs ++ pad).toArray e (0, 0)) :: rest) w := hw.perm hp.symm
    refine (key ρ hρ w hw').mono fun u w' ⟨x, ⟨f1, f2, f3, f4, f5, f6⟩, hu, hm⟩ => ?_
    have hge := hw.ge
    refine ⟨⟨_, [(x.b, .cells (xs ++ news ++ x.pad).toArray e (0, 0))], x.N⟩, ⟨f2, hnl, .inr ⟨x.b, x.cap, x.pad, rfl, rfl, f3, f4, f5, by rcases f1 with f1 | f1 <;> omega⟩⟩, hu, ?_⟩
    exact (hm.sublist (.cons_cons _ (.cons _ (List.Sublist.refl _)))).perm (ho [(x.b, .cells (xs ++ news ++ x.pad).toArray e (0, 0))]).symm
end Go.Sx
/- What a file tells: words on values. No condition. -/
namespace Go.Proofs.YtgkjnkhoopcjgaaDoor
open Go.Sx

/-- A section's bytes as far as they are, and as they are told. -/
def secC (bs : List UInt8) (i : Nat) : List UInt8 := if (srow bs i).type = 8 then [] else cut bs (srow bs i).off (srow bs i).size
def partOf (bs : List UInt8) (i : Nat) : List UInt8 := if (srow bs i).size ≤ (secC bs i).length then secC bs i else []
def bodyOf (bs : List UInt8) (i : Nat) : List UInt8 := cut bs (prow bs i).off (prow bs i).filesz
theorem secC_le {bs : List UInt8} {i : Nat} : (secC bs i).length ≤ (srow bs i).size := by
  unfold secC cut; split <;> simp; omega

def hdrL (bs : List UInt8) : List Value := [.int .i64 ((bv bs 4 : Nat) : Int), .int .i64 ((bv bs 5 : Nat) : Int), .int .i64 ((bv bs 6 : Nat) : Int), .int .i64 ((bv bs 7 : Nat) : Int), .int .i64 ((bv bs 8 : Nat) : Int), .int .i64 ((hd bs).type : Int), .int .i64 ((hd bs).machine : Int), .int .u64 ((hd bs).entry : Int)]
def secV (nm : List UInt8) (r : SRow) : List Value := [.string (strB nm), .int .i64 (r.type : Int), .int .i64 (r.flags : Int), .int .u64 (r.addr : Int), .int .u64 (r.off : Int), .int .u64 (r.size : Int), .int .i64 (r.link : Int), .int .i64 (r.info : Int), .int .u64 (r.align : Int), .int .u64 (r.ents : Int), .int .u64 (r.size : Int)]
def prgV (r : PRow) : List Value := [.int .i64 (r.type : Int), .int .i64 (r.flags : Int), .int .u64 (r.off : Int), .int .u64 (r.vaddr : Int), .int .u64 (r.paddr : Int), .int .u64 (r.filesz : Int), .int .u64 (r.memsz : Int), .int .u64 (r.align : Int)]
def secsL (bs : List UInt8) (nm : Nat → List UInt8) : Nat → List Value
  | 0 => []
  | n + 1 => secsL bs nm n ++ secV (nm n) (srow bs n)
def prgsL (bs : List UInt8) : Nat → List Value
  | 0 => []
  | n + 1 => prgsL bs n ++ prgV (prow bs n)

/-- Values that are slices of bytes, one each. -/
def Bss (nn : MM) (vs : List Value) (f : Nat → List UInt8) : Prop := ∀ i v, vs[i]? = some v → ByIn nn v (f i)
theorem Bss.mono {nn mm : MM} {vs : List Value} {f : Nat → List UInt8} (h : Bss nn vs f) (hs : List.Subset nn mm) : Bss mm vs f := fun i v hv => (h i v hv).mono hs
theorem Bss.snoc {nn mm : MM} {vs : List Value} {f : Nat → List UInt8} {v : Value} {n : Nat} (h : Bss nn vs f) (hn : vs.length = n) (hs : List.Subset nn mm) (hv : ByIn mm v (f n)) : Bss mm (vs ++ [v]) f := by
  intro i u hu
  by_cases hi : i < vs.length
  · rw [List.getElem?_append_left hi] at hu
    exact (h i u hu).mono hs
  · rw [List.getElem?_append_right (by omega)] at hu
    have : i - vs.length = 0 := by
      rcases Nat.eq_zero_or_pos (i - vs.length) with h0 | h0
      · exact h0
      · rw [List.getElem?_eq_none (by simp; omega)] at hu; cases hu
    rw [this] at hu
    obtain rfl : v = u := Option.some.inj hu
    have : i = n := by omega
    subst this
    exact hv

/-- What a file's reading tells, in memory. -/
structure Tells (bs : List UInt8) (m : Nat) (v1 v2 v3 v4 : Value) (nn : MM) : Prop where
  secs : ∃ R, RowOk m 39 11 (secsL bs (nameOf bs) (hd bs).shnum) (hd bs).shnum v1 R ∧ ∀ p ∈ R, p ∈ nn
  parts : ∃ vs R, RowOk m 22 1 vs (hd bs).shnum v2 R ∧ (∀ p ∈ R, p ∈ nn) ∧ Bss nn vs (partOf bs)
  progs : ∃ R, RowOk m 41 8 (prgsL bs (hd bs).phnum) (hd bs).phnum v3 R ∧ ∀ p ∈ R, p ∈ nn
  bodies : ∃ vs R, RowOk m 22 1 vs (hd bs).phnum v4 R ∧ (∀ p ∈ R, p ∈ nn) ∧ Bss nn vs (bodyOf bs)

/-- How File ends. -/
def FileR (bs : List UInt8) (w : World) (en : Ending) (w' : World) : Prop :=
  (¬ Good bs ∧ (∃ (xs : List Value) (a b c d : Value), en = .returned (.tuple #[.agg xs.toArray, a, b, c, d, .bool false]) ∧ xs.length = 8 ∧ xs.all (·.oneCell') = true) ∧ Eff E0 w w') ∨
    (Good bs ∧ ∃ v1 v2 v3 v4 nn, en = .returned (.tuple #[.agg (hdrL bs).toArray, v1, v2, v3, v4, .bool true]) ∧ Tells bs w.heap.size v1 v2 v3 v4 nn ∧ (∀ p ∈ nn, w.heap.size ≤ p.1) ∧ Eff E0 w w' ∧ Has nn w' ∧ (nn.map Prod.fst).Nodup)

/-- What is asked of a file beside. -/
structure Fits (bs : List UInt8) : Prop where
  nz : ∀ i, i < (hd bs).shnum → pre (strB (nameOf bs i)) zd = false
  fs : ∀ i, i < (hd bs).phnum → (prow bs i).filesz ≤ 65536
end Go.Proofs.YtgkjnkhoopcjgaaDoor
/- Slices that may begin at their capacity's end; numbers byte by byte. No condition. -/
namespace Go.Sx
open Go.Proofs.YtgkjnkhoopcjgaaDoor
variable {P : Program} {fm : FM} {mm : MM} {d : Option Nat} {ty : TypeId} {pos : String} {after : Array Edge} {g : Option (Nat × Bool)} {x y : Operand}

/-- Where x[l:] begins. -/
def adv (b o c l : Nat) : Addr := if c = l then ⟨b, o, none⟩ else ⟨b, o + l, none⟩
theorem q_slice_adv {t e : TypeId} {k : IntKind} {l b o n c : Nat} {lo : Operand} (hx : fm.ev x = some (.slice (some ⟨b, o, none⟩) n c)) (hl : fm.ev lo = some (.int k ((l : Nat) : Int)))
    (hu : ∀ w, (underlying t).run P w = .ok (.slice e) w) (hs : ∀ w, (sizeOf e).run P w = .ok 1 w) (h1 : l ≤ n) (h2 : n ≤ c) :
    Quiet P fm mm ⟨d, .slice t x (some lo) none none, ty, pos, after, g⟩ (.slice (some (adv b o c l)) (n - l) (c - l)) :=
  q_run fun ρ hρ w _ => by
    have hif : (if c = l then some (⟨b, o, none⟩ : Addr) else some ⟨b, o + l, none⟩) = some (adv b o c l) := by unfold adv; split <;> rfl
    have h1' : ¬ (n < l) := by omega
    simp [execOp, hρ _ _ hx, hρ _ _ hl, Instr.sliceAt, hu, Instr.slice, Instr.sliceBounds, Instr.sliceBound, asIntOf, h1, hs, addr_add, hif]

theorem beN_snoc (l : List UInt8) (b : UInt8) : beN (l ++ [b]) = beN l * 256 + b.toNat := by
  simp [beN, List.foldl_append]
theorem beN_take {ys : List UInt8} {i : Nat} {b : UInt8} (h : ys[i]? = some b) : beN (ys.take (i + 1)) = beN (ys.take i) * 256 + b.toNat := by
  rw [List.take_add_one, h]; exact beN_snoc _ _
theorem beN_take_lt {ys : List UInt8} {i : Nat} (h : i ≤ 7) : beN (ys.take i) < 72057594037927936 := by
  have h1 := beN_lt (ys.take i)
  have h2 : 256 ^ (ys.take i).length ≤ 256 ^ 7 := Nat.pow_le_pow_right (by omega) (by simp; omega)
  have h3 : (256 : Nat) ^ 7 = 72057594037927936 := by decide
  omega
/-- The bytes in the order in which they are read. -/
def ord (big : Bool) (xs : List UInt8) : List UInt8 := if big then xs else xs.reverse
theorem ord_big {xs : List UInt8} {i : Nat} {x : UInt8} (h : xs[i]? = some x) : (ord true xs)[i]? = some x := h
theorem ord_small {xs : List UInt8} {i n : Nat} {x : UInt8} (hn : xs.length = n) (hi : i < n) (h : xs[n - 1 - i]? = some x) : (ord false xs)[i]? = some x := by
  unfold ord
  rw [if_neg (by simp), List.getElem?_reverse (by omega), hn]
  exact h
end Go.Sx
/- The reference's small functions: sizes, isSigned, cut, textAt, zipped, take. Conditions: what they read lies in memory. -/
namespace Go.Proofs.YtgkjnkhoopcjgaaDoor
open Go.Sx
set_option maxRecDepth 100000
set_option maxHeartbeats 1000000

theorem sizes9_true {w : World} : Calls Tryd.prog 9 #[.bool true] w fun en w' => en = .returned (.tuple #[.int .i64 64, .int .i64 56, .int .i64 64]) ∧ Same w w' := by
 refine begins E0 Tryd.func9 rfl Tryd.ntmps9 rfl [(0, _)] ⟨rfl, trivial⟩ [] trivial List.nodup_nil ?_
 refine scR ?_
 iterate 3 refine sqA rfl rfl ?_
 refine sqK [0] rfl ?_
 refine sc_seq ?_
 refine scR ?_
 refine sqM rfl rfl ?_
 refine sqK [5] rfl ?_
 refine sc_cond_t rfl ?_
 refine scR ?_
 iterate 3 refine sqA rfl rfl ?_
 refine sqK [2, 3, 4] rfl ?_
 refine sc_ret ?_
 refine se_then_ret ?_
 exact se_end (res3 Tryd.results9 rfl rfl rfl) (fun w' hw => ⟨rfl, hw.same_of⟩)

theorem sizes9_false {w : World} : Calls Tryd.prog 9 #[.bool false] w fun en w' => en = .returned (.tuple #[.int .i64 52, .int .i64 32, .int .i64 40]) ∧ Same w w' := by
 refine begins E0 Tryd.func9 rfl Tryd.ntmps9 rfl [(0, _)] ⟨rfl, trivial⟩ [] trivial List.nodup_nil ?_
 refine scR ?_
 iterate 3 refine sqA rfl rfl ?_
 refine sqK [0] rfl ?_
 refine sc_seq ?_
 refine scR ?_
 refine sqM rfl rfl ?_
 refine sqK [5] rfl ?_
 refine sc_cond_f rfl ?_
 refine scS ?_
 refine scK [] rfl ?_
 refine scR ?_
 iterate 3 refine sqA rfl rfl ?_
 refine sqZ ?_
 refine sc_ret ?_
 exact se_end (res3 Tryd.results9 rfl rfl rfl) (fun w' hw => ⟨rfl, hw.same_of⟩)

theorem sizes9 {wide : Bool} {w : World} : Calls Tryd.prog 9 #[.bool wide] w fun en w' => en = .returned (.tuple #[.int .i64 ((wd wide 52 64 : Nat) : Int), .int .i64 ((wd wide 32 56 : Nat) : Int), .int .i64 ((wd wide 40 64 : Nat) : Int)]) ∧ Same w w' := by
 cases wide
 ·
  exact sizes9_false
 ·
  exact sizes9_true
theorem signed11 {n : Nat} {w : World} : Calls Tryd.prog 11 #[.int .u64 (n : Int)] w fun en w' => en = .returned (.bool (decide (n < 9223372036854775808))) ∧ Same w w' := by
 refine begins E0 Tryd.func11 rfl Tryd.ntmps11 rfl [(0, _)] ⟨rfl, trivial⟩ [] trivial List.nodup_nil ?_
 refine scR ?_
 refine sqA rfl rfl ?_
 refine sqKR [0] rfl ?_
 refine sqM rfl rfl ?_
 refine sq_q (q_lss rfl rfl) rfl ?_
 refine sqA rfl rfl ?_
 refine sqK [2] rfl ?_
 refine sc_ret ?_
 exact se_end (res1 Tryd.results11 rfl) (fun w' hw => ⟨congrArg (fun b : Bool => Ending.returned (.bool b)) (decide_eq_decide.2 (by omega)), hw.same_of⟩)

theorem cut12 {ab ao m c a n : Nat} {w : World} (hm : m ≤ c) (hc : c ≤ 9223372036854775807) (ha : a < 18446744073709551616) (hn : n < 18446744073709551616) :
  Calls Tryd.prog 12 #[.slice (some ⟨ab, ao, none⟩) m c, .int .u64 (a : Int), .int .u64 (n : Int)] w fun en w' =>
   ((n = 0 ∧ en = .returned (.tuple #[.slice none 0 0, .bool true])) ∨ (n ≠ 0 ∧ ¬ a + n ≤ m ∧ en = .returned (.tuple #[.slice none 0 0, .bool false])) ∨ (n ≠ 0 ∧ a + n ≤ m ∧ en = .returned (.tuple #[.slice (some ⟨ab, ao + a, none⟩) n (c - a), .bool true]))) ∧ Same w w' := by
 refine begins E0 Tryd.func12 rfl Tryd.ntmps12 rfl [(0, _), (1, _), (2, _)] ⟨rfl, rfl, rfl, trivial⟩ [] trivial List.nodup_nil ?_
 refine scR ?_
 iterate 2 refine sqA rfl rfl ?_
 refine sqK [0, 1, 2] rfl ?_
 refine sc_seq ?_
 refine scR ?_
 refine sqM rfl rfl ?_
 refine sq_split (q_eql rfl rfl) rfl (fun h1_1 => ?_) (fun h1_1 => ?_)
 ·
  have hn0 : n = 0 := by omega
  refine sqK [0, 1, 2, 9] rfl ?_
  refine sc_cond_t rfl ?_
  refine scR ?_
  iterate 2 refine sqA rfl rfl ?_
  refine sqK [6, 7] rfl ?_
  refine sc_ret ?_
  refine se_then_ret ?_
  exact se_end (res2 Tryd.results12 rfl rfl) (fun w' hw => ⟨.inl ⟨hn0, rfl⟩, hw.same_of⟩)
 have hn0 : n ≠ 0 := by omega
 refine sqK [0, 1, 2, 9] rfl ?_
 refine sc_cond_f rfl ?_
 refine scS ?_
 refine scK [0, 1, 2] rfl ?_
 refine sc_seq ?_
 refine scR ?_
 iterate 2 refine sqM rfl rfl ?_
 refine sq_q (q_len rfl Tryd.runUnderlying22) rfl ?_
 refine sq_q (q_conv rfl Tryd.runUnderlying3 Tryd.runUnderlying23 (w_u64 (by omega) (by omega))) rfl ?_
 refine sq_split (q_gtr rfl rfl) rfl (fun h3_4 => ?_) (fun h3_4 => ?_)
 ·
  have _tok := trivial
  refine sqM rfl rfl ?_
  iterate 7 refine sq_gn rfl rfl rfl rfl ?_
  refine sqT rfl rfl rfl ?_
  refine sqK [0, 1, 2, 23] rfl ?_
  refine sc_cond_t rfl ?_
  refine scR ?_
  iterate 2 refine sqA rfl rfl ?_
  refine sqK [6, 7] rfl ?_
  refine sc_ret ?_
  refine se_then_ret ?_
  exact se_end (res2 Tryd.results12 rfl rfl) (fun w' hw => ⟨.inr (.inl ⟨hn0, by omega, rfl⟩), hw.same_of⟩)
 refine sqM rfl rfl ?_
 refine sq_gy rfl rfl rfl ?_
 refine sqM rfl rfl ?_
 refine sq_gy rfl rfl rfl ?_
 refine sqM rfl rfl ?_
 refine sq_gy rfl rfl rfl ?_
 refine sq_q (q_len rfl Tryd.runUnderlying22) rfl ?_
 refine sq_gy rfl rfl rfl ?_
 refine sq_q (q_conv rfl Tryd.runUnderlying3 Tryd.runUnderlying23 (w_u64 (by omega) (by omega))) rfl ?_
 refine sq_gy rfl rfl rfl ?_
 refine sqM rfl rfl ?_
 refine sq_gy rfl rfl rfl ?_
 refine sq_q (q_sub (a := (m : Int)) (b := (a : Int)) (r := ((m - a : Nat) : Int)) rfl rfl (w_u64e (by omega) (by omega) (by omega))) rfl ?_
 refine sq_gy rfl rfl rfl ?_
 refine sq_split (q_gtr rfl rfl) rfl (fun h3_12 => ?_) (fun h3_12 => ?_)
 ·
  have _tok := trivial
  refine sqF rfl rfl rfl ?_
  refine sqK [0, 1, 2, 23] rfl ?_
  refine sc_cond_t rfl ?_
  refine scR ?_
  iterate 2 refine sqA rfl rfl ?_
  refine sqK [6, 7] rfl ?_
  refine sc_ret ?_
  refine se_then_ret ?_
  exact se_end (res2 Tryd.results12 rfl rfl) (fun w' hw => ⟨.inr (.inl ⟨hn0, by omega, rfl⟩), hw.same_of⟩)
 refine sqF rfl rfl rfl ?_
 refine sqK [0, 1, 2, 23] rfl ?_
 refine sc_cond_f rfl ?_
 refine scS ?_
 refine scK [0, 1, 2] rfl ?_
 refine scR ?_
 iterate 4 refine sqM rfl rfl ?_
 refine sq_q (q_add (a := (a : Int)) (b := (n : Int)) (r := ((a + n : Nat) : Int)) rfl rfl (w_u64e (by omega) (by omega) (by omega))) rfl ?_
 refine sq_q (q_slice_lh (j := ao + a) (n' := n) (c' := c - a) rfl rfl rfl Tryd.runUnderlying22 Tryd.sizeOf5 (by omega) (by omega) (by omega) (by omega) (by rw [Int.toNat_natCast]; omega) (by rw [Int.toNat_natCast, Int.toNat_natCast]; omega) (by rw [Int.toNat_natCast])) rfl ?_
 iterate 2 refine sqA rfl rfl ?_
 refine sqK [6, 7] rfl ?_
 refine sc_ret ?_
 exact se_end (res2 Tryd.results12 rfl rfl) (fun w' hw => ⟨.inr (.inr ⟨hn0, by omega, rfl⟩), hw.same_of⟩)

theorem zd_size : zd.size = 7 := by decide
theorem zip21 {s : ByteArray} {w : World} : Calls Tryd.prog 21 #[.string s] w fun en w' => en = .returned (.bool (pre s zd)) ∧ Same w w' := by
 have hz := zd_size
 refine begins E0 Tryd.func21 rfl Tryd.ntmps21 rfl [(0, _)] ⟨rfl, trivial⟩ [] trivial List.nodup_nil ?_
 refine scR ?_
 refine sqA rfl rfl ?_
 refine sqKR [0] rfl ?_
 refine sqM rfl rfl ?_
 refine sq_q (q_lens rfl Tryd.runUnderlying9) rfl ?_
 refine sq_split (q_geq rfl rfl) rfl (fun h1_2 => ?_) (fun h1_2 => ?_)
 ·
  have hge : 7 ≤ s.size := by omega
  refine sqM rfl rfl ?_
  refine sq_gy rfl rfl rfl ?_
  refine sqM rfl rfl ?_
  refine sq_gy rfl rfl rfl ?_
  refine sq_q (q_str_h rfl rfl Tryd.runUnderlying9 (by omega) (by omega)) rfl ?_
  refine sq_gy rfl rfl rfl ?_
  refine sq_q (q_strcmp rfl rfl) rfl ?_
  refine sqT rfl rfl rfl ?_
  refine sqA rfl rfl ?_
  refine sqK [2] rfl ?_
  refine sc_ret ?_
  exact se_end (res1 Tryd.results21 rfl) (fun w' hw => ⟨congrArg (fun b : Bool => Ending.returned (.bool b)) (by first | (simp only [pre, hz, hge, decide_true, Bool.true_and]; rfl) | (simp only [pre, hz, hge, decide_false, Bool.false_and])), hw.same_of⟩)
 have hge : ¬ 7 ≤ s.size := by omega
 refine sqM rfl rfl ?_
 iterate 3 refine sq_gn rfl rfl rfl rfl ?_
 refine sqF rfl rfl rfl ?_
 refine sqA rfl rfl ?_
 refine sqK [2] rfl ?_
 refine sc_ret ?_
 exact se_end (res1 Tryd.results21 rfl) (fun w' hw => ⟨congrArg (fun b : Bool => Ending.returned (.bool b)) (by first | (simp only [pre, hz, hge, decide_true, Bool.true_and]; rfl) | (simp only [pre, hz, hge, decide_false, Bool.false_and])), hw.same_of⟩)

theorem At_piece {l : List Value} {o s k : Nat} {xs : List UInt8} (h : At l o xs) (hs : s + k ≤ xs.length) : (l.drop (o + s)).take k = ((xs.drop s).take k).map u8v := by
 unfold At at h
 have h2 := congrArg (fun z => (z.drop s).take k) h
 simp only [List.drop_take, List.take_take, List.drop_drop] at h2
 rw [Nat.min_eq_left (by omega)] at h2
 rw [h2, ← List.map_drop, ← List.map_take]
theorem text20 {b o c s : Nat} {xs : List UInt8} {l : List Value} {e : TypeId} {fr : Nat × Nat} {w : World} (hb : w.heap[b]? = some (.cells l.toArray e fr)) (hat : At l o xs) (hc : xs.length ≤ c) (hx : xs.length ≤ 8192) (hs : s < 18446744073709551616) :
  Calls Tryd.prog 20 #[.slice (some ⟨b, o, none⟩) xs.length c, .int .u64 (s : Nat)] w fun en w' => en = .returned (.tuple #[.string (strB ((if s < xs.length then textFrom (xs.drop s) else none).getD [])), .bool (if s < xs.length then textFrom (xs.drop s) else none).isSome]) ∧ Same w w' := by
 refine begins E0 Tryd.func20 rfl Tryd.ntmps20 rfl [(0, _), (1, _)] ⟨rfl, rfl, trivial⟩ [(b, .cells l.toArray e fr)] ⟨hb, trivial⟩ (by simp) ?_
 refine scR ?_
 iterate 2 refine sqA rfl rfl ?_
 refine sqK [0, 1] rfl ?_
 refine sc_seq ?_
 refine scR ?_
 iterate 2 refine sqM rfl rfl ?_
 refine sq_q (q_len rfl Tryd.runUnderlying22) rfl ?_
 refine sq_q (q_conv rfl Tryd.runUnderlying3 Tryd.runUnderlying23 (w_u64 (by omega) (by omega))) rfl ?_
 refine sq_split (q_geq rfl rfl) rfl (fun h1_4 => ?_) (fun h1_4 => ?_)
 ·
  have hge : xs.length ≤ s := by omega
  refine sqK [0, 1, 11] rfl ?_
  refine sc_cond_t rfl ?_
  refine scR ?_
  iterate 2 refine sqA rfl rfl ?_
  refine sqK [4, 5] rfl ?_
  refine sc_ret ?_
  refine se_then_ret ?_
  exact se_end (res2 Tryd.results20 rfl rfl) (fun w' hw => ⟨by rw [if_neg (by omega)]; rfl, hw.same_of⟩)
 have hlt : s < xs.length := by omega
 refine sqK [0, 1, 11] rfl ?_
 refine sc_cond_f rfl ?_
 refine scS ?_
 refine scK [0, 1] rfl ?_
 refine sc_seq ?_
 refine scR ?_
 refine sqM rfl rfl ?_
 refine sqA rfl rfl ?_
 refine sqK [0, 1, 6] rfl ?_
 refine sc_block ?_
 refine sc_loop (ι := Nat) (fun i => [(0, .slice (some ⟨b, o, none⟩) xs.length c), (1, .int .u64 (s : Nat)), (6, .int .u64 (i : Nat))]) (fun _ => w.heap.size) (fun _ => [(b, .cells l.toArray e fr)]) (fun i => s ≤ i ∧ i ≤ xs.length ∧ textFrom (xs.drop s) = (textFrom (xs.drop i)).map ((xs.drop s).take (i - s) ++ ·)) (fun i => xs.length - i) s ⟨⟨Nat.le_refl _, by omega, textFrom_start _ _⟩, ⟨rfl, rfl, rfl, trivial⟩, rfl, fun _ h => h⟩ ?_
 intro i ⟨hsi, hil, hinv⟩
 refine sc_seq ?_
 refine scR ?_
 iterate 2 refine sqM rfl rfl ?_
 refine sq_q (q_len rfl Tryd.runUnderlying22) rfl ?_
 refine sq_q (q_conv rfl Tryd.runUnderlying3 Tryd.runUnderlying23 (w_u64 (by omega) (by omega))) rfl ?_
 refine sq_split (q_lss rfl rfl) rfl (fun h4_4 => ?_) (fun h4_4 => ?_)
 ·
  have hil2 : i < xs.length := by omega
  obtain ⟨x, hxi⟩ : ∃ x, xs[i]? = some x := ⟨xs[i], List.getElem?_eq_getElem hil2⟩
  have hxu := x.toNat_lt
  refine sqK [0, 1, 6, 17] rfl ?_
  refine sc_cond_t rfl ?_
  refine scS ?_
  refine scK [0, 1, 6] rfl ?_
  refine sc_seq ?_
  refine sc_block ?_
  refine scR ?_
  iterate 2 refine sqM rfl rfl ?_
  refine sq_q (q_index (j := o + i) rfl rfl Tryd.runUnderlying22 Tryd.sizeOf5 ⟨by omega, by omega⟩ (by rw [Int.toNat_natCast]; omega)) rfl ?_
  refine sq_q (q_load1 rfl Tryd.isAgg5 (i := 0) rfl (hat.get hxi)) rfl ?_
  refine sq_split (q_eql rfl rfl) rfl (fun h6_4 => ?_) (fun h6_4 => ?_)
  ·
   have _tok := trivial
   refine sqK [0, 1, 6, 24] rfl ?_
   refine sc_cond_t rfl ?_
   refine scR ?_
   iterate 3 refine sqM rfl rfl ?_
   refine sq_q (q_slice_lh (j := o + s) (n' := i - s) (c' := c - s) rfl rfl rfl Tryd.runUnderlying22 Tryd.sizeOf5 (by omega) (by omega) (by omega) (by omega) (by rw [Int.toNat_natCast]; omega) (by rw [Int.toNat_natCast, Int.toNat_natCast]) (by rw [Int.toNat_natCast])) rfl ?_
   refine sq_q (q_bstr (i := 0) (xs := (xs.drop s).take (i - s)) rfl rfl Tryd.underlying22 Tryd.underlying5 Tryd.underlying9 (by simp; omega) (At_piece hat (by omega))) rfl ?_
   iterate 2 refine sqA rfl rfl ?_
   refine sqK [4, 5] rfl ?_
   refine sc_ret ?_
   refine se_block_ret ?_
   iterate 2 refine se_then_ret ?_
   refine se_block_ret ?_
   refine se_then_ret ?_
   exact se_end (res2 Tryd.results20 rfl rfl) (fun w' hw => ⟨by rw [if_pos hlt, textFrom_step hxi hsi hinv, if_pos (by apply UInt8.toNat_inj.1; simp; omega)]; rfl, hw.same_of⟩)
  refine sqK [0, 1, 6, 24] rfl ?_
  refine sc_cond_f rfl ?_
  refine sc_skip ?_
  refine se_block ?_
  refine se_seq ?_
  refine scK [0, 1, 6] rfl ?_
  refine sc_region ?_
  refine sqM rfl rfl ?_
  refine sq_q (q_add rfl rfl (w_u64 (by omega) (by omega))) rfl ?_
  refine sqA rfl rfl ?_
  refine sq_nil ?_
  refine se_loop (i + 1) (by omega) ⟨by omega, by omega, by rw [textFrom_step hxi hsi hinv, if_neg (by intro h0; subst h0; simp at h6_4)]⟩ ⟨rfl, rfl, rfl, trivial⟩ (fun _ h => h)
 refine sqK [0, 1, 6, 17] rfl ?_
 refine sc_cond_f rfl ?_
 refine sc_exit ?_
 iterate 2 refine se_then_exit ?_
 refine se_block_hit ?_
 refine se_seq ?_
 refine scK [] rfl ?_
 refine scR ?_
 iterate 2 refine sqA rfl rfl ?_
 refine sqZ ?_
 refine sc_ret ?_
 exact se_end (res2 Tryd.results20 rfl rfl) (fun w' hw => ⟨by rw [if_pos hlt, textFrom_end (by omega) hinv]; rfl, hw.same_of⟩)

theorem text20_nil {c s : Nat} {ad : Option Addr} {w : World} (hs : s < 18446744073709551616) :
  Calls Tryd.prog 20 #[.slice ad 0 c, .int .u64 (s : Nat)] w fun en w' => en = .returned (.tuple #[.string (strB []), .bool false]) ∧ Same w w' := by
 refine begins E0 Tryd.func20 rfl Tryd.ntmps20 rfl [(0, _), (1, _)] ⟨rfl, rfl, trivial⟩ [] trivial List.nodup_nil ?_
 refine scR ?_
 iterate 2 refine sqA rfl rfl ?_
 refine sqK [0, 1] rfl ?_
 refine sc_seq ?_
 refine scR ?_
 iterate 2 refine sqM rfl rfl ?_
 refine sq_q (q_len rfl Tryd.runUnderlying22) rfl ?_
 refine sq_q (q_conv rfl Tryd.runUnderlying3 Tryd.runUnderlying23 (w_u64 (by omega) (by omega))) rfl ?_
 refine sq_q (q_decT (q_geq rfl rfl) (by omega)) rfl ?_
 refine sqK [0, 1, 11] rfl ?_
 refine sc_cond_t rfl ?_
 refine scR ?_
 iterate 2 refine sqA rfl rfl ?_
 refine sqK [4, 5] rfl ?_
 refine sc_ret ?_
 refine se_then_ret ?_
 exact se_end (res2 Tryd.results20 rfl rfl) (fun w' hw => ⟨rfl, hw.same_of⟩)

theorem ord_length (big : Bool) (xs : List UInt8) : (ord big xs).length = xs.length := by unfold ord; split <;> simp

theorem take_n {sz : Nat} {wide : Bool} {big : Bool} {fb ab o m c : Nat} {xs : List UInt8} {l : List Value} {e : TypeId} {fr : Nat × Nat} {w : World} (h0 : 0 < sz) (h8 : sz ≤ 8) (hf : w.heap[fb]? = some (.cells [.slice (some ⟨ab, o, none⟩) m c, .bool wide, .bool big].toArray 45 (0, 0))) (hb : w.heap[ab]? = some (.cells l.toArray e fr)) (hne : fb ≠ ab) (hat : At l o xs) (hxs : xs.length = sz) (hm : sz ≤ m) (hc : m ≤ c) :
  Calls Tryd.prog 10 #[.pointer (some ⟨fb, 0, none⟩), .int .i64 ((sz : Nat) : Int)] w fun en w' => en = .returned (.int .u64 ((numB big xs : Nat) : Int)) ∧ Upd w w' fb (.cells [.slice (some (adv ab o c sz)) (m - sz) (c - sz), .bool wide, .bool big].toArray 45 (0, 0)) := by
 refine begins (fun k => k = fb) Tryd.func10 rfl Tryd.ntmps10 rfl [(0, _), (1, _)] ⟨rfl, rfl, trivial⟩ [(fb, .cells [.slice (some ⟨ab, o, none⟩) m c, .bool wide, .bool big].toArray 45 (0, 0)), (ab, .cells l.toArray e fr)] ⟨hf, hb, trivial⟩ (by simp [hne]) ?_
 refine scR ?_
 refine sqA rfl rfl ?_
 refine sqK [0, 1] rfl ?_
 refine sc_seq ?_
 refine scR ?_
 refine sqM rfl rfl ?_
 refine sq_q (q_decF (q_eql rfl rfl) (by omega)) rfl ?_
 refine sqK [0, 1, 9] rfl ?_
 refine sc_cond_f rfl ?_
 refine scS ?_
 refine scK [0, 1] rfl ?_
 refine scR ?_
 refine sqA rfl rfl ?_
 refine sqZ ?_
 refine sc_seq ?_
 refine scR ?_
 refine sqA rfl rfl ?_
 refine sqZ ?_
 refine sc_block ?_
 refine sc_loop (ι := Nat) (fun i => [(0, .pointer (some ⟨fb, 0, none⟩)), (1, .int .i64 ((sz : Nat) : Int)), (5, .int .u64 ((beN ((ord big xs).take i) : Nat) : Int)), (6, .int .i64 (i : Int))]) (fun _ => w.heap.size) (fun _ => [(fb, .cells [.slice (some ⟨ab, o, none⟩) m c, .bool wide, .bool big].toArray 45 (0, 0)), (ab, .cells l.toArray e fr)]) (fun i => i ≤ sz) (fun i => sz - i) 0 ⟨Nat.zero_le _, ⟨rfl, rfl, rfl, rfl, trivial⟩, rfl, fun _ h => h⟩ ?_
 intro i hi
 refine sc_seq ?_
 refine scR ?_
 iterate 2 refine sqM rfl rfl ?_
 refine sq_split (q_lss rfl rfl) rfl (fun h7_2 => ?_) (fun h7_2 => ?_)
 ·
  have hin : i < sz := by omega
  have hbt := beN_take_lt (ys := ord big xs) (i := i) (by omega)
  refine sqK [0, 1, 5, 6, 16] rfl ?_
  refine sc_cond_t rfl ?_
  refine scS ?_
  refine scK [0, 1, 5, 6] rfl ?_
  refine sc_seq ?_
  refine sc_block ?_
  refine scR ?_
  refine sqM rfl rfl ?_
  refine sq_q (q_sub (r := ((sz - 1 : Nat) : Int)) rfl rfl (w_i64e (by omega) (by omega) (by omega))) rfl ?_
  refine sqM rfl rfl ?_
  refine sq_q (q_sub (r := ((sz - 1 - i : Nat) : Int)) rfl rfl (w_i64e (by omega) (by omega) (by omega))) rfl ?_
  refine sqA rfl rfl ?_
  refine sqK [0, 1, 5, 6, 7] rfl ?_
  refine sc_seq ?_
  refine scR ?_
  refine sqM rfl rfl ?_
  refine sq_q (q_nil rfl) rfl ?_
  refine sq_q (q_fieldj (j := 2) rfl Tryd.runUnderlying45 rfl Tryd.sizeOf4 rfl) rfl ?_
  refine sq_q (q_load1 rfl Tryd.isAgg4 (i := 0) rfl rfl) rfl ?_
  refine sqK [0, 1, 5, 6, 7, 26] rfl ?_
  refine sc_cond rfl (fun h10 => ?_) (fun h10 => ?_)
  ·
   subst h10
   obtain ⟨x, hxi⟩ : ∃ x, xs[i]? = some x := ⟨xs[i]'(by omega), List.getElem?_eq_getElem _⟩
   have hyi : (ord true xs)[i]? = some x := ord_big hxi
   have hx := x.toNat_lt
   have hld := hat.get hxi
   refine sc_region ?_
   refine sqM rfl rfl ?_
   refine sqA rfl rfl ?_
   refine sqK [0, 1, 5, 6, 7] rfl ?_
   refine sc_region ?_
   refine sqM rfl rfl ?_
   refine sq_q (q_shl rfl rfl (by decide) (s64_8 hbt)) rfl ?_
   refine sqM rfl rfl ?_
   refine sq_q (q_nil rfl) rfl ?_
   refine sq_q (q_fieldj (j := 0) rfl Tryd.runUnderlying45 rfl Tryd.sizeOf22 rfl) rfl ?_
   refine sq_q (q_load1 rfl Tryd.isAgg22 (i := 0) rfl rfl) rfl ?_
   refine sqM rfl rfl ?_
   refine sq_q (q_index (j := o + i) rfl rfl Tryd.runUnderlying22 Tryd.sizeOf5 ⟨by omega, by omega⟩ (by rw [Int.toNat_natCast]; omega)) rfl ?_
   refine sq_q (q_load1 rfl Tryd.isAgg5 (i := 1) rfl hld) rfl ?_
   refine sq_q (q_conv rfl Tryd.runUnderlying5 Tryd.runUnderlying23 (w_u64 (by omega) (by omega))) rfl ?_
   refine sq_q (q_or rfl rfl (o64b hbt hx)) rfl ?_
   refine sqA rfl rfl ?_
   refine sq_nil ?_
   refine se_block ?_
   refine se_seq ?_
   refine scK [0, 1, 5, 6] rfl ?_
   refine sc_region ?_
   refine sqM rfl rfl ?_
   refine sq_q (q_add rfl rfl (w_i64 (by omega) (by omega))) rfl ?_
   refine sqA rfl rfl ?_
   refine sq_nil ?_
   refine se_loop (i + 1) (by omega) (by omega) ⟨rfl, rfl, by rw [beN_take hyi]; rfl, rfl, trivial⟩ (fun _ h => h)
  subst h10
  obtain ⟨x, hxi⟩ : ∃ x, xs[sz - 1 - i]? = some x := ⟨xs[sz - 1 - i]'(by omega), List.getElem?_eq_getElem _⟩
  have hyi : (ord false xs)[i]? = some x := ord_small hxs hin hxi
  have hx := x.toNat_lt
  have hld := hat.get hxi
  refine scS ?_
  refine scK [0, 1, 5, 6, 7] rfl ?_
  refine sc_region ?_
  refine sqM rfl rfl ?_
  refine sq_q (q_shl rfl rfl (by decide) (s64_8 hbt)) rfl ?_
  refine sqM rfl rfl ?_
  refine sq_q (q_nil rfl) rfl ?_
  refine sq_q (q_fieldj (j := 0) rfl Tryd.runUnderlying45 rfl Tryd.sizeOf22 rfl) rfl ?_
  refine sq_q (q_load1 rfl Tryd.isAgg22 (i := 0) rfl rfl) rfl ?_
  refine sqM rfl rfl ?_
  refine sq_q (q_index (j := o + (sz - 1 - i)) rfl rfl Tryd.runUnderlying22 Tryd.sizeOf5 ⟨by omega, by omega⟩ (by rw [Int.toNat_natCast]; omega)) rfl ?_
  refine sq_q (q_load1 rfl Tryd.isAgg5 (i := 1) rfl hld) rfl ?_
  refine sq_q (q_conv rfl Tryd.runUnderlying5 Tryd.runUnderlying23 (w_u64 (by omega) (by omega))) rfl ?_
  refine sq_q (q_or rfl rfl (o64b hbt hx)) rfl ?_
  refine sqA rfl rfl ?_
  refine sq_nil ?_
  refine se_block ?_
  refine se_seq ?_
  refine scK [0, 1, 5, 6] rfl ?_
  refine sc_region ?_
  refine sqM rfl rfl ?_
  refine sq_q (q_add rfl rfl (w_i64 (by omega) (by omega))) rfl ?_
  refine sqA rfl rfl ?_
  refine sq_nil ?_
  refine se_loop (i + 1) (by omega) (by omega) ⟨rfl, rfl, by rw [beN_take hyi]; rfl, rfl, trivial⟩ (fun _ h => h)
 refine sqK [0, 1, 5, 6, 16] rfl ?_
 refine sc_cond_f rfl ?_
 refine sc_exit ?_
 iterate 2 refine se_then_exit ?_
 refine se_block_hit ?_
 refine se_seq ?_
 refine scK [0, 1, 5] rfl ?_
 refine scR ?_
 iterate 2 refine sqM rfl rfl ?_
 refine sq_q (q_nil rfl) rfl ?_
 refine sq_q (q_fieldj (j := 0) rfl Tryd.runUnderlying45 rfl Tryd.sizeOf22 rfl) rfl ?_
 refine sq_q (q_load1 rfl Tryd.isAgg22 (i := 0) rfl rfl) rfl ?_
 refine sqM rfl rfl ?_
 refine sq_q (q_slice_adv (l := sz) rfl rfl Tryd.runUnderlying22 Tryd.sizeOf5 (by omega) (by omega)) rfl ?_
 refine sq_q (q_nil rfl) rfl ?_
 refine sq_q (q_fieldj (j := 0) rfl Tryd.runUnderlying45 rfl Tryd.sizeOf22 rfl) rfl ?_
 refine sq_m0 (m_store rfl rfl Tryd.sizeOf22 rfl (i := 0) rfl rfl rfl (fun _ => rfl)) (fun _ _ => ?_)
 refine sqKR [5] rfl ?_
 refine sqM rfl rfl ?_
 refine sqA rfl rfl ?_
 refine sqK [4] rfl ?_
 refine sc_ret ?_
 exact se_end (res1 Tryd.results10 rfl) (fun w' hw => ⟨by rw [show i = sz by omega, List.take_of_length_le (by rw [ord_length]; omega)]; rfl, hw.upd_of (by simp)⟩)

theorem take_a8 {big : Bool} {fb ab o m c : Nat} {xs : List UInt8} {l : List Value} {e : TypeId} {fr : Nat × Nat} {w : World} (hf : w.heap[fb]? = some (.cells [.slice (some ⟨ab, o, none⟩) m c, .bool true, .bool big].toArray 45 (0, 0))) (hb : w.heap[ab]? = some (.cells l.toArray e fr)) (hne : fb ≠ ab) (hat : At l o xs) (hxs : xs.length = 8) (hm : 8 ≤ m) (hc : m ≤ c) :
  Calls Tryd.prog 10 #[.pointer (some ⟨fb, 0, none⟩), .int .i64 0] w fun en w' => en = .returned (.int .u64 ((numB big xs : Nat) : Int)) ∧ Upd w w' fb (.cells [.slice (some (adv ab o c 8)) (m - 8) (c - 8), .bool true, .bool big].toArray 45 (0, 0)) := by
 refine begins (fun k => k = fb) Tryd.func10 rfl Tryd.ntmps10 rfl [(0, _), (1, _)] ⟨rfl, rfl, trivial⟩ [(fb, .cells [.slice (some ⟨ab, o, none⟩) m c, .bool true, .bool big].toArray 45 (0, 0)), (ab, .cells l.toArray e fr)] ⟨hf, hb, trivial⟩ (by simp [hne]) ?_
 refine scR ?_
 refine sqA rfl rfl ?_
 refine sqK [0, 1] rfl ?_
 refine sc_seq ?_
 refine scR ?_
 refine sqM rfl rfl ?_
 refine sq_q (q_decT (q_eql rfl rfl) (rfl)) rfl ?_
 refine sqK [0, 1, 9] rfl ?_
 refine sc_cond_t rfl ?_
 refine scR ?_
 refine sqA rfl rfl ?_
 refine sqKR [0, 1] rfl ?_
 refine sqM rfl rfl ?_
 refine sq_q (q_nil rfl) rfl ?_
 refine sq_q (q_fieldj (j := 1) rfl Tryd.runUnderlying45 rfl Tryd.sizeOf4 rfl) rfl ?_
 refine sq_q (q_load1 rfl Tryd.isAgg4 (i := 0) rfl rfl) rfl ?_
 refine sqK [0, 1, 13] rfl ?_
 refine sc_cond_t rfl ?_
 refine sc_region ?_
 refine sqA rfl rfl ?_
 refine sqKR [0, 1] rfl ?_
 refine sqA rfl rfl ?_
 refine sqZ ?_
 refine sc_seq ?_
 refine scR ?_
 refine sqA rfl rfl ?_
 refine sqZ ?_
 refine sc_block ?_
 refine sc_loop (ι := Nat) (fun i => [(0, .pointer (some ⟨fb, 0, none⟩)), (1, .int .i64 8), (5, .int .u64 ((beN ((ord big xs).take i) : Nat) : Int)), (6, .int .i64 (i : Int))]) (fun _ => w.heap.size) (fun _ => [(fb, .cells [.slice (some ⟨ab, o, none⟩) m c, .bool true, .bool big].toArray 45 (0, 0)), (ab, .cells l.toArray e fr)]) (fun i => i ≤ 8) (fun i => 8 - i) 0 ⟨Nat.zero_le _, ⟨rfl, rfl, rfl, rfl, trivial⟩, rfl, fun _ h => h⟩ ?_
 intro i hi
 refine sc_seq ?_
 refine scR ?_
 iterate 2 refine sqM rfl rfl ?_
 refine sq_split (q_lss rfl rfl) rfl (fun h7_2 => ?_) (fun h7_2 => ?_)
 ·
  have hin : i < 8 := by omega
  have hbt := beN_take_lt (ys := ord big xs) (i := i) (by omega)
  refine sqK [0, 1, 5, 6, 16] rfl ?_
  refine sc_cond_t rfl ?_
  refine scS ?_
  refine scK [0, 1, 5, 6] rfl ?_
  refine sc_seq ?_
  refine sc_block ?_
  refine scR ?_
  refine sqM rfl rfl ?_
  refine sq_q (q_sub (r := ((8 - 1 : Nat) : Int)) rfl rfl (w_i64e (by omega) (by omega) (by omega))) rfl ?_
  refine sqM rfl rfl ?_
  refine sq_q (q_sub (r := ((8 - 1 - i : Nat) : Int)) rfl rfl (w_i64e (by omega) (by omega) (by omega))) rfl ?_
  refine sqA rfl rfl ?_
  refine sqK [0, 1, 5, 6, 7] rfl ?_
  refine sc_seq ?_
  refine scR ?_
  refine sqM rfl rfl ?_
  refine sq_q (q_nil rfl) rfl ?_
  refine sq_q (q_fieldj (j := 2) rfl Tryd.runUnderlying45 rfl Tryd.sizeOf4 rfl) rfl ?_
  refine sq_q (q_load1 rfl Tryd.isAgg4 (i := 0) rfl rfl) rfl ?_
  refine sqK [0, 1, 5, 6, 7, 26] rfl ?_
  refine sc_cond rfl (fun h10 => ?_) (fun h10 => ?_)
  ·
   subst h10
   obtain ⟨x, hxi⟩ : ∃ x, xs[i]? = some x := ⟨xs[i]'(by omega), List.getElem?_eq_getElem _⟩
   have hyi : (ord true xs)[i]? = some x := ord_big hxi
   have hx := x.toNat_lt
   have hld := hat.get hxi
   refine sc_region ?_
   refine sqM rfl rfl ?_
   refine sqA rfl rfl ?_
   refine sqK [0, 1, 5, 6, 7] rfl ?_
   refine sc_region ?_
   refine sqM rfl rfl ?_
   refine sq_q (q_shl rfl rfl (by decide) (s64_8 hbt)) rfl ?_
   refine sqM rfl rfl ?_
   refine sq_q (q_nil rfl) rfl ?_
   refine sq_q (q_fieldj (j := 0) rfl Tryd.runUnderlying45 rfl Tryd.sizeOf22 rfl) rfl ?_
   refine sq_q (q_load1 rfl Tryd.isAgg22 (i := 0) rfl rfl) rfl ?_
   refine sqM rfl rfl ?_
   refine sq_q (q_index (j := o + i) rfl rfl Tryd.runUnderlying22 Tryd.sizeOf5 ⟨by omega, by omega⟩ (by rw [Int.toNat_natCast]; omega)) rfl ?_
   refine sq_q (q_load1 rfl Tryd.isAgg5 (i := 1) rfl hld) rfl ?_
   refine sq_q (q_conv rfl Tryd.runUnderlying5 Tryd.runUnderlying23 (w_u64 (by omega) (by omega))) rfl ?_
   refine sq_q (q_or rfl rfl (o64b hbt hx)) rfl ?_
   refine sqA rfl rfl ?_
   refine sq_nil ?_
   refine se_block ?_
   refine se_seq ?_
   refine scK [0, 1, 5, 6] rfl ?_
   refine sc_region ?_
   refine sqM rfl rfl ?_
   refine sq_q (q_add rfl rfl (w_i64 (by omega) (by omega))) rfl ?_
   refine sqA rfl rfl ?_
   refine sq_nil ?_
   refine se_loop (i + 1) (by omega) (by omega) ⟨rfl, rfl, by rw [beN_take hyi]; rfl, rfl, trivial⟩ (fun _ h => h)
  subst h10
  obtain ⟨x, hxi⟩ : ∃ x, xs[8 - 1 - i]? = some x := ⟨xs[8 - 1 - i]'(by omega), List.getElem?_eq_getElem _⟩
  have hyi : (ord false xs)[i]? = some x := ord_small hxs hin hxi
  have hx := x.toNat_lt
  have hld := hat.get hxi
  refine scS ?_
  refine scK [0, 1, 5, 6, 7] rfl ?_
  refine sc_region ?_
  refine sqM rfl rfl ?_
  refine sq_q (q_shl rfl rfl (by decide) (s64_8 hbt)) rfl ?_
  refine sqM rfl rfl ?_
  refine sq_q (q_nil rfl) rfl ?_
  refine sq_q (q_fieldj (j := 0) rfl Tryd.runUnderlying45 rfl Tryd.sizeOf22 rfl) rfl ?_
  refine sq_q (q_load1 rfl Tryd.isAgg22 (i := 0) rfl rfl) rfl ?_
  refine sqM rfl rfl ?_
  refine sq_q (q_index (j := o + (8 - 1 - i)) rfl rfl Tryd.runUnderlying22 Tryd.sizeOf5 ⟨by omega, by omega⟩ (by rw [Int.toNat_natCast]; omega)) rfl ?_
  refine sq_q (q_load1 rfl Tryd.isAgg5 (i := 1) rfl hld) rfl ?_
  refine sq_q (q_conv rfl Tryd.runUnderlying5 Tryd.runUnderlying23 (w_u64 (by omega) (by omega))) rfl ?_
  refine sq_q (q_or rfl rfl (o64b hbt hx)) rfl ?_
  refine sqA rfl rfl ?_
  refine sq_nil ?_
  refine se_block ?_
  refine se_seq ?_
  refine scK [0, 1, 5, 6] rfl ?_
  refine sc_region ?_
  refine sqM rfl rfl ?_
  refine sq_q (q_add rfl rfl (w_i64 (by omega) (by omega))) rfl ?_
  refine sqA rfl rfl ?_
  refine sq_nil ?_
  refine se_loop (i + 1) (by omega) (by omega) ⟨rfl, rfl, by rw [beN_take hyi]; rfl, rfl, trivial⟩ (fun _ h => h)
 refine sqK [0, 1, 5, 6, 16] rfl ?_
 refine sc_cond_f rfl ?_
 refine sc_exit ?_
 iterate 2 refine se_then_exit ?_
 refine se_block_hit ?_
 refine se_seq ?_
 refine scK [0, 1, 5] rfl ?_
 refine scR ?_
 iterate 2 refine sqM rfl rfl ?_
 refine sq_q (q_nil rfl) rfl ?_
 refine sq_q (q_fieldj (j := 0) rfl Tryd.runUnderlying45 rfl Tryd.sizeOf22 rfl) rfl ?_
 refine sq_q (q_load1 rfl Tryd.isAgg22 (i := 0) rfl rfl) rfl ?_
 refine sqM rfl rfl ?_
 refine sq_q (q_slice_adv (l := 8) rfl rfl Tryd.runUnderlying22 Tryd.sizeOf5 (by omega) (by omega)) rfl ?_
 refine sq_q (q_nil rfl) rfl ?_
 refine sq_q (q_fieldj (j := 0) rfl Tryd.runUnderlying45 rfl Tryd.sizeOf22 rfl) rfl ?_
 refine sq_m0 (m_store rfl rfl Tryd.sizeOf22 rfl (i := 0) rfl rfl rfl (fun _ => rfl)) (fun _ _ => ?_)
 refine sqKR [5] rfl ?_
 refine sqM rfl rfl ?_
 refine sqA rfl rfl ?_
 refine sqK [4] rfl ?_
 refine sc_ret ?_
 exact se_end (res1 Tryd.results10 rfl) (fun w' hw => ⟨by rw [show i = 8 by omega, List.take_of_length_le (by rw [ord_length]; omega)]; rfl, hw.upd_of (by simp)⟩)

theorem take_a4 {big : Bool} {fb ab o m c : Nat} {xs : List UInt8} {l : List Value} {e : TypeId} {fr : Nat × Nat} {w : World} (hf : w.heap[fb]? = some (.cells [.slice (some ⟨ab, o, none⟩) m c, .bool false, .bool big].toArray 45 (0, 0))) (hb : w.heap[ab]? = some (.cells l.toArray e fr)) (hne : fb ≠ ab) (hat : At l o xs) (hxs : xs.length = 4) (hm : 4 ≤ m) (hc : m ≤ c) :
  Calls Tryd.prog 10 #[.pointer (some ⟨fb, 0, none⟩), .int .i64 0] w fun en w' => en = .returned (.int .u64 ((numB big xs : Nat) : Int)) ∧ Upd w w' fb (.cells [.slice (some (adv ab o c 4)) (m - 4) (c - 4), .bool false, .bool big].toArray 45 (0, 0)) := by
 refine begins (fun k => k = fb) Tryd.func10 rfl Tryd.ntmps10 rfl [(0, _), (1, _)] ⟨rfl, rfl, trivial⟩ [(fb, .cells [.slice (some ⟨ab, o, none⟩) m c, .bool false, .bool big].toArray 45 (0, 0)), (ab, .cells l.toArray e fr)] ⟨hf, hb, trivial⟩ (by simp [hne]) ?_
 refine scR ?_
 refine sqA rfl rfl ?_
 refine sqK [0, 1] rfl ?_
 refine sc_seq ?_
 refine scR ?_
 refine sqM rfl rfl ?_
 refine sq_q (q_decT (q_eql rfl rfl) (rfl)) rfl ?_
 refine sqK [0, 1, 9] rfl ?_
 refine sc_cond_t rfl ?_
 refine scR ?_
 refine sqA rfl rfl ?_
 refine sqKR [0, 1] rfl ?_
 refine sqM rfl rfl ?_
 refine sq_q (q_nil rfl) rfl ?_
 refine sq_q (q_fieldj (j := 1) rfl Tryd.runUnderlying45 rfl Tryd.sizeOf4 rfl) rfl ?_
 refine sq_q (q_load1 rfl Tryd.isAgg4 (i := 0) rfl rfl) rfl ?_
 refine sqK [0, 1, 13] rfl ?_
 refine sc_cond_f rfl ?_
 refine scS ?_
 refine scK [0, 1] rfl ?_
 refine scR ?_
 refine sqA rfl rfl ?_
 refine sqZ ?_
 refine sc_seq ?_
 refine scR ?_
 refine sqA rfl rfl ?_
 refine sqZ ?_
 refine sc_block ?_
 refine sc_loop (ι := Nat) (fun i => [(0, .pointer (some ⟨fb, 0, none⟩)), (1, .int .i64 4), (5, .int .u64 ((beN ((ord big xs).take i) : Nat) : Int)), (6, .int .i64 (i : Int))]) (fun _ => w.heap.size) (fun _ => [(fb, .cells [.slice (some ⟨ab, o, none⟩) m c, .bool false, .bool big].toArray 45 (0, 0)), (ab, .cells l.toArray e fr)]) (fun i => i ≤ 4) (fun i => 4 - i) 0 ⟨Nat.zero_le _, ⟨rfl, rfl, rfl, rfl, trivial⟩, rfl, fun _ h => h⟩ ?_
 intro i hi
 refine sc_seq ?_
 refine scR ?_
 iterate 2 refine sqM rfl rfl ?_
 refine sq_split (q_lss rfl rfl) rfl (fun h7_2 => ?_) (fun h7_2 => ?_)
 ·
  have hin : i < 4 := by omega
  have hbt := beN_take_lt (ys := ord big xs) (i := i) (by omega)
  refine sqK [0, 1, 5, 6, 16] rfl ?_
  refine sc_cond_t rfl ?_
  refine scS ?_
  refine scK [0, 1, 5, 6] rfl ?_
  refine sc_seq ?_
  refine sc_block ?_
  refine scR ?_
  refine sqM rfl rfl ?_
  refine sq_q (q_sub (r := ((4 - 1 : Nat) : Int)) rfl rfl (w_i64e (by omega) (by omega) (by omega))) rfl ?_
  refine sqM rfl rfl ?_
  refine sq_q (q_sub (r := ((4 - 1 - i : Nat) : Int)) rfl rfl (w_i64e (by omega) (by omega) (by omega))) rfl ?_
  refine sqA rfl rfl ?_
  refine sqK [0, 1, 5, 6, 7] rfl ?_
  refine sc_seq ?_
  refine scR ?_
  refine sqM rfl rfl ?_
  refine sq_q (q_nil rfl) rfl ?_
  refine sq_q (q_fieldj (j := 2) rfl Tryd.runUnderlying45 rfl Tryd.sizeOf4 rfl) rfl ?_
  refine sq_q (q_load1 rfl Tryd.isAgg4 (i := 0) rfl rfl) rfl ?_
  refine sqK [0, 1, 5, 6, 7, 26] rfl ?_
  refine sc_cond rfl (fun h10 => ?_) (fun h10 => ?_)
  ·
   subst h10
   obtain ⟨x, hxi⟩ : ∃ x, xs[i]? = some x := ⟨xs[i]'(by omega), List.getElem?_eq_getElem _⟩
   have hyi : (ord true xs)[i]? = some x := ord_big hxi
   have hx := x.toNat_lt
   have hld := hat.get hxi
   refine sc_region ?_
   refine sqM rfl rfl ?_
   refine sqA rfl rfl ?_
   refine sqK [0, 1, 5, 6, 7] rfl ?_
   refine sc_region ?_
   refine sqM rfl rfl ?_
   refine sq_q (q_shl rfl rfl (by decide) (s64_8 hbt)) rfl ?_
   refine sqM rfl rfl ?_
   refine sq_q (q_nil rfl) rfl ?_
   refine sq_q (q_fieldj (j := 0) rfl Tryd.runUnderlying45 rfl Tryd.sizeOf22 rfl) rfl ?_
   refine sq_q (q_load1 rfl Tryd.isAgg22 (i := 0) rfl rfl) rfl ?_
   refine sqM rfl rfl ?_
   refine sq_q (q_index (j := o + i) rfl rfl Tryd.runUnderlying22 Tryd.sizeOf5 ⟨by omega, by omega⟩ (by rw [Int.toNat_natCast]; omega)) rfl ?_
   refine sq_q (q_load1 rfl Tryd.isAgg5 (i := 1) rfl hld) rfl ?_
   refine sq_q (q_conv rfl Tryd.runUnderlying5 Tryd.runUnderlying23 (w_u64 (by omega) (by omega))) rfl ?_
   refine sq_q (q_or rfl rfl (o64b hbt hx)) rfl ?_
   refine sqA rfl rfl ?_
   refine sq_nil ?_
   refine se_block ?_
   refine se_seq ?_
   refine scK [0, 1, 5, 6] rfl ?_
   refine sc_region ?_
   refine sqM rfl rfl ?_
   refine sq_q (q_add rfl rfl (w_i64 (by omega) (by omega))) rfl ?_
   refine sqA rfl rfl ?_
   refine sq_nil ?_
   refine se_loop (i + 1) (by omega) (by omega) ⟨rfl, rfl, by rw [beN_take hyi]; rfl, rfl, trivial⟩ (fun _ h => h)
  subst h10
  obtain ⟨x, hxi⟩ : ∃ x, xs[4 - 1 - i]? = some x := ⟨xs[4 - 1 - i]'(by omega), List.getElem?_eq_getElem _⟩
  have hyi : (ord false xs)[i]? = some x := ord_small hxs hin hxi
  have hx := x.toNat_lt
  have hld := hat.get hxi
  refine scS ?_
  refine scK [0, 1, 5, 6, 7] rfl ?_
  refine sc_region ?_
  refine sqM rfl rfl ?_
  refine sq_q (q_shl rfl rfl (by decide) (s64_8 hbt)) rfl ?_
  refine sqM rfl rfl ?_
  refine sq_q (q_nil rfl) rfl ?_
  refine sq_q (q_fieldj (j := 0) rfl Tryd.runUnderlying45 rfl Tryd.sizeOf22 rfl) rfl ?_
  refine sq_q (q_load1 rfl Tryd.isAgg22 (i := 0) rfl rfl) rfl ?_
  refine sqM rfl rfl ?_
  refine sq_q (q_index (j := o + (4 - 1 - i)) rfl rfl Tryd.runUnderlying22 Tryd.sizeOf5 ⟨by omega, by omega⟩ (by rw [Int.toNat_natCast]; omega)) rfl ?_
  refine sq_q (q_load1 rfl Tryd.isAgg5 (i := 1) rfl hld) rfl ?_
  refine sq_q (q_conv rfl Tryd.runUnderlying5 Tryd.runUnderlying23 (w_u64 (by omega) (by omega))) rfl ?_
  refine sq_q (q_or rfl rfl (o64b hbt hx)) rfl ?_
  refine sqA rfl rfl ?_
  refine sq_nil ?_
  refine se_block ?_
  refine se_seq ?_
  refine scK [0, 1, 5, 6] rfl ?_
  refine sc_region ?_
  refine sqM rfl rfl ?_
  refine sq_q (q_add rfl rfl (w_i64 (by omega) (by omega))) rfl ?_
  refine sqA rfl rfl ?_
  refine sq_nil ?_
  refine se_loop (i + 1) (by omega) (by omega) ⟨rfl, rfl, by rw [beN_take hyi]; rfl, rfl, trivial⟩ (fun _ h => h)
 refine sqK [0, 1, 5, 6, 16] rfl ?_
 refine sc_cond_f rfl ?_
 refine sc_exit ?_
 iterate 2 refine se_then_exit ?_
 refine se_block_hit ?_
 refine se_seq ?_
 refine scK [0, 1, 5] rfl ?_
 refine scR ?_
 iterate 2 refine sqM rfl rfl ?_
 refine sq_q (q_nil rfl) rfl ?_
 refine sq_q (q_fieldj (j := 0) rfl Tryd.runUnderlying45 rfl Tryd.sizeOf22 rfl) rfl ?_
 refine sq_q (q_load1 rfl Tryd.isAgg22 (i := 0) rfl rfl) rfl ?_
 refine sqM rfl rfl ?_
 refine sq_q (q_slice_adv (l := 4) rfl rfl Tryd.runUnderlying22 Tryd.sizeOf5 (by omega) (by omega)) rfl ?_
 refine sq_q (q_nil rfl) rfl ?_
 refine sq_q (q_fieldj (j := 0) rfl Tryd.runUnderlying45 rfl Tryd.sizeOf22 rfl) rfl ?_
 refine sq_m0 (m_store rfl rfl Tryd.sizeOf22 rfl (i := 0) rfl rfl rfl (fun _ => rfl)) (fun _ _ => ?_)
 refine sqKR [5] rfl ?_
 refine sqM rfl rfl ?_
 refine sqA rfl rfl ?_
 refine sqK [4] rfl ?_
 refine sc_ret ?_
 exact se_end (res1 Tryd.results10 rfl) (fun w' hw => ⟨by rw [show i = 4 by omega, List.take_of_length_le (by rw [ord_length]; omega)]; rfl, hw.upd_of (by simp)⟩)

end Go.Proofs.YtgkjnkhoopcjgaaDoor
/- The reference's reads of a row: prog and part. Conditions: the row lies in memory. -/
namespace Go.Proofs.YtgkjnkhoopcjgaaDoor
open Go.Sx
set_option maxRecDepth 100000
set_option maxHeartbeats 2000000

theorem At_at {l : List Value} {ao p q s : Nat} {bs : List UInt8} (h : At l ao bs) (hq : q = ao + p) (hp : p + s ≤ bs.length) : At l q ((bs.drop p).take s) := by
 subst hq
 have h2 := At_piece h hp
 unfold At
 rw [show ((bs.drop p).take s).length = s by simp; omega]
 exact h2
theorem cut_at {bs : List UInt8} {p s : Nat} (hp : p + s ≤ bs.length) : ((bs.drop p).take s).length = s := by simp; omega

/-- A call of take. -/
theorem take_inv {w0 : World} {E : Nat → Prop} {fm : FM} {N : Nat} {mm ms : MM} {x y : Operand} {ts : Array TypeId} {d : Option Nat} {ty : TypeId} {pos : String} {after : Array Edge} {gd : Option (Nat × Bool)} {sz s v : Nat} {wide big : Bool} {fb ab o m c i j p ao : Nat} {a : Addr} {bs : List UInt8} {l : List Value} {e : TypeId} {fr : Nat × Nat}
  (hk : (s = sz ∧ 0 < sz ∧ sz ≤ 8) ∨ (s = 0 ∧ sz = wd wide 4 8)) (hx : fm.ev x = some (.pointer (some ⟨fb, 0, none⟩))) (hy : fm.ev y = some (.int .i64 ((s : Nat) : Int))) (hm : mm[i]? = some (fb, .cells [.slice (some ⟨ab, o, none⟩) m c, .bool wide, .bool big].toArray 45 (0, 0))) (hb : mm[j]? = some (ab, .cells l.toArray e fr)) (hne : fb ≠ ab)
  (hat : At l ao bs) (ho : o = ao + p) (hp : p + sz ≤ bs.length) (hv : fld big bs p sz = v) (hmm : sz ≤ m) (hc : m ≤ c) (ha : adv ab o c sz = a) (hms : setK mm i (fb, .cells [.slice (some a) (m - sz) (c - sz), .bool wide, .bool big].toArray 45 (0, 0)) some = some ms) (hE : fb < w0.heap.size → E fb) :
  Main Tryd.prog w0 E fm N mm ⟨d, .call { callee := .value (.func 10), args := #[x, y], argTypes := ts }, ty, pos, after, gd⟩ (fun _ : Unit => .int .u64 ((v : Nat) : Int)) (fun _ => N) (fun _ => ms) (fun _ => True) := by
 obtain ⟨_, hms⟩ := setK_eq hms
 simp only [Option.some.injEq] at hms
 subst ha hv
 refine m_call (args2 hx hy) Tryd.call10 fun w hw => ?_
 have hat2 := At_at hat ho hp
 have hl := cut_at hp
 rcases hk with ⟨rfl, h1, h2⟩ | ⟨rfl, rfl⟩
 ·
  refine (take_n (sz := s) h1 h2 (hw.get hm) (hw.get hb) hne hat2 hl hmm hc).mono fun en w' ⟨he, hu⟩ => ⟨(), trivial, he, hms ▸ hw.upd hm hu hE⟩
 ·
  cases wide
  ·
   refine (take_a4 (hw.get hm) (hw.get hb) hne hat2 hl hmm hc).mono fun en w' ⟨he, hu⟩ => ⟨(), trivial, he, hms ▸ hw.upd hm hu hE⟩
  ·
   refine (take_a8 (hw.get hm) (hw.get hb) hne hat2 hl hmm hc).mono fun en w' ⟨he, hu⟩ => ⟨(), trivial, he, hms ▸ hw.upd hm hu hE⟩
theorem adv_lt {b o c l j : Nat} (h : l < c) (hj : o + l = j) : adv b o c l = ⟨b, j, none⟩ := by unfold adv; rw [if_neg (by omega), hj]

theorem row13_true {big : Bool} {fb ab o ao p m c : Nat} {bs : List UInt8} {l : List Value} {e : TypeId} {fr : Nat × Nat} {w : World} (hf : w.heap[fb]? = some (.cells [.slice (some ⟨ab, o, none⟩) m c, .bool true, .bool big].toArray 45 (0, 0))) (hb : w.heap[ab]? = some (.cells l.toArray e fr)) (hne : fb ≠ ab) (hat : At l ao bs) (ho : o = ao + p) (hp : p + 56 ≤ bs.length) (hm : 56 ≤ m) (hc : m ≤ c) :
  Calls Tryd.prog 13 #[.pointer (some ⟨fb, 0, none⟩)] w fun en w' => en = .returned (.agg (prgV (prowAt big true bs p)).toArray) ∧ Eff (fun k => k = fb) w w' := by
 obtain ⟨q1, q2, q3, q4, q5, q6, q7, q8⟩ := prowAt_lt big true bs p
 refine begins (fun k => k = fb) Tryd.func13 rfl Tryd.ntmps13 rfl [(0, _)] ⟨rfl, trivial⟩ [(fb, .cells [.slice (some ⟨ab, o, none⟩) m c, .bool true, .bool big].toArray 45 (0, 0)), (ab, .cells l.toArray e fr)] ⟨hf, hb, trivial⟩ (by simp [hne]) ?_
 refine scR ?_
 refine sq_m (m_alloc (l := [.int .i64 0, .int .i64 0, .int .u64 0, .int .u64 0, .int .u64 0, .int .u64 0, .int .u64 0, .int .u64 0]) Tryd.zeroValue41 rfl) rfl (fun _ _ => ?_)
 refine sqZ ?_
 refine scR ?_
 refine sqM rfl rfl ?_
 refine sq_m (take_inv (sz := 4) (s := 4) (v := (prowAt big true bs p).type) (i := 1) (j := 2) (p := p + 0) (.inl ⟨rfl, by omega, by omega⟩) rfl rfl rfl rfl hne hat (by omega) (by omega) rfl (by omega) (by omega) (adv_lt (by omega) rfl) rfl (fun _ => rfl)) rfl (fun _ _ => ?_)
 refine sq_q (q_conv rfl Tryd.runUnderlying23 Tryd.runUnderlying3 (w_i64 (by omega) (by omega))) rfl ?_
 refine sq_q (q_build (vs := [(0, .int .i64 (((prowAt big true bs p).type : Nat) : Int))]) (cs := #[.int .i64 (((prowAt big true bs p).type : Nat) : Int), .int .i64 0, .int .u64 0, .int .u64 0, .int .u64 0, .int .u64 0, .int .u64 0, .int .u64 0]) ⟨rfl, rfl, trivial⟩ (fun _ => by kernel_rfl)) rfl ?_
 refine sq_m (m_alloc (l := [.int .i64 0, .int .i64 0, .int .u64 0, .int .u64 0, .int .u64 0, .int .u64 0, .int .u64 0, .int .u64 0]) Tryd.zeroValue41 rfl) rfl (fun _ _ => ?_)
 refine sq_m0 (m_stores (i := 0) (vs := [.int .i64 (((prowAt big true bs p).type : Nat) : Int), .int .i64 0, .int .u64 0, .int .u64 0, .int .u64 0, .int .u64 0, .int .u64 0, .int .u64 0]) (l' := [.int .i64 (((prowAt big true bs p).type : Nat) : Int), .int .i64 0, .int .u64 0, .int .u64 0, .int .u64 0, .int .u64 0, .int .u64 0, .int .u64 0]) rfl rfl Tryd.sizeOf41 rfl rfl rfl (by simp) rfl rfl (by intro h; omega)) (fun _ _ => ?_)
 refine sqK [0, 2, 3] rfl ?_
 refine sc_seq ?_
 refine scR ?_
 refine sqM rfl rfl ?_
 refine sq_q (q_nil rfl) rfl ?_
 refine sq_q (q_fieldj (j := 1) rfl Tryd.runUnderlying45 rfl Tryd.sizeOf4 rfl) rfl ?_
 refine sq_q (q_load1 rfl Tryd.isAgg4 (i := 2) rfl rfl) rfl ?_
 refine sqK [0, 2, 3, 11] rfl ?_
 refine sc_cond_t rfl ?_
 refine sc_region ?_
 refine sqM rfl rfl ?_
 refine sq_m (take_inv (sz := 4) (s := 4) (v := (prowAt big true bs p).flags) (i := 2) (j := 3) (p := p + 4) (.inl ⟨rfl, by omega, by omega⟩) rfl rfl rfl rfl hne hat (by omega) (by omega) rfl (by omega) (by omega) (adv_lt (by omega) rfl) rfl (fun _ => rfl)) rfl (fun _ _ => ?_)
 refine sq_q (q_conv rfl Tryd.runUnderlying23 Tryd.runUnderlying3 (w_i64 (by omega) (by omega))) rfl ?_
 refine sq_q (q_fieldj (j := 1) rfl Tryd.runUnderlying41 rfl Tryd.sizeOf3 rfl) rfl ?_
 refine sq_m0 ((m_store rfl rfl Tryd.sizeOf3 rfl (i := 0) rfl rfl rfl (by intro h; omega))) (fun _ _ => ?_)
 refine sqKR [0, 2, 3] rfl ?_
 refine sqM rfl rfl ?_
 refine sq_m (take_inv (sz := 8) (s := 0) (v := (prowAt big true bs p).off) (i := 2) (j := 3) (p := p + 8) (.inr ⟨rfl, rfl⟩) rfl rfl rfl rfl hne hat (by omega) (by omega) rfl (by omega) (by omega) (adv_lt (by omega) rfl) rfl (fun _ => rfl)) rfl (fun _ _ => ?_)
 refine sqM rfl rfl ?_
 refine sq_m (take_inv (sz := 8) (s := 0) (v := (prowAt big true bs p).vaddr) (i := 2) (j := 3) (p := p + 16) (.inr ⟨rfl, rfl⟩) rfl rfl rfl rfl hne hat (by omega) (by omega) rfl (by omega) (by omega) (adv_lt (by omega) rfl) rfl (fun _ => rfl)) rfl (fun _ _ => ?_)
 refine sqM rfl rfl ?_
 refine sq_m (take_inv (sz := 8) (s := 0) (v := (prowAt big true bs p).paddr) (i := 2) (j := 3) (p := p + 24) (.inr ⟨rfl, rfl⟩) rfl rfl rfl rfl hne hat (by omega) (by omega) rfl (by omega) (by omega) (adv_lt (by omega) rfl) rfl (fun _ => rfl)) rfl (fun _ _ => ?_)
 refine sqM rfl rfl ?_
 refine sq_m (take_inv (sz := 8) (s := 0) (v := (prowAt big true bs p).filesz) (i := 2) (j := 3) (p := p + 32) (.inr ⟨rfl, rfl⟩) rfl rfl rfl rfl hne hat (by omega) (by omega) rfl (by omega) (by omega) (adv_lt (by omega) rfl) rfl (fun _ => rfl)) rfl (fun _ _ => ?_)
 refine sqM rfl rfl ?_
 refine sq_m (take_inv (sz := 8) (s := 0) (v := (prowAt big true bs p).memsz) (i := 2) (j := 3) (p := p + 40) (.inr ⟨rfl, rfl⟩) rfl rfl rfl rfl hne hat (by omega) (by omega) rfl (by omega) (by omega) (adv_lt (by omega) rfl) rfl (fun _ => rfl)) rfl (fun _ _ => ?_)
 refine sq_q (q_fieldj (j := 2) rfl Tryd.runUnderlying41 rfl Tryd.sizeOf23 rfl) rfl ?_
 refine sq_m0 ((m_store rfl rfl Tryd.sizeOf23 rfl (i := 0) rfl rfl rfl (by intro h; omega))) (fun _ _ => ?_)
 refine sq_q (q_fieldj (j := 3) rfl Tryd.runUnderlying41 rfl Tryd.sizeOf23 rfl) rfl ?_
 refine sq_m0 ((m_store rfl rfl Tryd.sizeOf23 rfl (i := 0) rfl rfl rfl (by intro h; omega))) (fun _ _ => ?_)
 refine sq_q (q_fieldj (j := 4) rfl Tryd.runUnderlying41 rfl Tryd.sizeOf23 rfl) rfl ?_
 refine sq_m0 ((m_store rfl rfl Tryd.sizeOf23 rfl (i := 0) rfl rfl rfl (by intro h; omega))) (fun _ _ => ?_)
 refine sq_q (q_fieldj (j := 5) rfl Tryd.runUnderlying41 rfl Tryd.sizeOf23 rfl) rfl ?_
 refine sq_m0 ((m_store rfl rfl Tryd.sizeOf23 rfl (i := 0) rfl rfl rfl (by intro h; omega))) (fun _ _ => ?_)
 refine sq_q (q_fieldj (j := 6) rfl Tryd.runUnderlying41 rfl Tryd.sizeOf23 rfl) rfl ?_
 refine sq_m0 ((m_store rfl rfl Tryd.sizeOf23 rfl (i := 0) rfl rfl rfl (by intro h; omega))) (fun _ _ => ?_)
 refine sqK [0, 2, 3] rfl ?_
 refine sc_seq ?_
 refine scR ?_
 refine sqM rfl rfl ?_
 refine sq_q (q_nil rfl) rfl ?_
 refine sq_q (q_fieldj (j := 1) rfl Tryd.runUnderlying45 rfl Tryd.sizeOf4 rfl) rfl ?_
 refine sq_q (q_load1 rfl Tryd.isAgg4 (i := 2) rfl rfl) rfl ?_
 refine sq_q (q_not' rfl) rfl ?_
 refine sqK [0, 2, 3, 35] rfl ?_
 refine sc_cond_f rfl ?_
 refine scS ?_
 refine scK [0, 2, 3] rfl ?_
 refine scR ?_
 refine sqM rfl rfl ?_
 refine sq_m (take_inv (sz := 8) (s := 0) (v := (prowAt big true bs p).align) (i := 2) (j := 3) (p := p + 48) (.inr ⟨rfl, rfl⟩) rfl rfl rfl rfl hne hat (by omega) (by omega) rfl (by omega) (by omega) rfl rfl (fun _ => rfl)) rfl (fun _ _ => ?_)
 refine sq_q (q_fieldj (j := 7) rfl Tryd.runUnderlying41 rfl Tryd.sizeOf23 rfl) rfl ?_
 refine sq_m0 ((m_store rfl rfl Tryd.sizeOf23 rfl (i := 0) rfl rfl rfl (by intro h; omega))) (fun _ _ => ?_)
 refine sqKR [2, 3] rfl ?_
 refine sq_q (q_loadK rfl Tryd.isAgg41 Tryd.sizeOf41 (i := 0) (vs := prgV (prowAt big true bs p)) rfl rfl) rfl ?_
 refine sq_m0 (m_stores (i := 1) (vs := prgV (prowAt big true bs p)) (l' := prgV (prowAt big true bs p)) rfl rfl Tryd.sizeOf41 rfl rfl rfl (by simp) rfl rfl (by intro h; omega)) (fun _ _ => ?_)
 refine sqK [2] rfl ?_
 refine sc_ret ?_
 exact se_end (resc Tryd.results13 rfl Tryd.isAgg41 Tryd.sizeOf41 (i := 1) rfl rfl) (fun w' hw => ⟨rfl, hw.eff⟩)

theorem row13_false {big : Bool} {fb ab o ao p m c : Nat} {bs : List UInt8} {l : List Value} {e : TypeId} {fr : Nat × Nat} {w : World} (hf : w.heap[fb]? = some (.cells [.slice (some ⟨ab, o, none⟩) m c, .bool false, .bool big].toArray 45 (0, 0))) (hb : w.heap[ab]? = some (.cells l.toArray e fr)) (hne : fb ≠ ab) (hat : At l ao bs) (ho : o = ao + p) (hp : p + 32 ≤ bs.length) (hm : 32 ≤ m) (hc : m ≤ c) :
  Calls Tryd.prog 13 #[.pointer (some ⟨fb, 0, none⟩)] w fun en w' => en = .returned (.agg (prgV (prowAt big false bs p)).toArray) ∧ Eff (fun k => k = fb) w w' := by
 obtain ⟨q1, q2, q3, q4, q5, q6, q7, q8⟩ := prowAt_lt big false bs p
 refine begins (fun k => k = fb) Tryd.func13 rfl Tryd.ntmps13 rfl [(0, _)] ⟨rfl, trivial⟩ [(fb, .cells [.slice (some ⟨ab, o, none⟩) m c, .bool false, .bool big].toArray 45 (0, 0)), (ab, .cells l.toArray e fr)] ⟨hf, hb, trivial⟩ (by simp [hne]) ?_
 refine scR ?_
 refine sq_m (m_alloc (l := [.int .i64 0, .int .i64 0, .int .u64 0, .int .u64 0, .int .u64 0, .int .u64 0, .int .u64 0, .int .u64 0]) Tryd.zeroValue41 rfl) rfl (fun _ _ => ?_)
 refine sqZ ?_
 refine scR ?_
 refine sqM rfl rfl ?_
 refine sq_m (take_inv (sz := 4) (s := 4) (v := (prowAt big false bs p).type) (i := 1) (j := 2) (p := p + 0) (.inl ⟨rfl, by omega, by omega⟩) rfl rfl rfl rfl hne hat (by omega) (by omega) rfl (by omega) (by omega) (adv_lt (by omega) rfl) rfl (fun _ => rfl)) rfl (fun _ _ => ?_)
 refine sq_q (q_conv rfl Tryd.runUnderlying23 Tryd.runUnderlying3 (w_i64 (by omega) (by omega))) rfl ?_
 refine sq_q (q_build (vs := [(0, .int .i64 (((prowAt big false bs p).type : Nat) : Int))]) (cs := #[.int .i64 (((prowAt big false bs p).type : Nat) : Int), .int .i64 0, .int .u64 0, .int .u64 0, .int .u64 0, .int .u64 0, .int .u64 0, .int .u64 0]) ⟨rfl, rfl, trivial⟩ (fun _ => by kernel_rfl)) rfl ?_
 refine sq_m (m_alloc (l := [.int .i64 0, .int .i64 0, .int .u64 0, .int .u64 0, .int .u64 0, .int .u64 0, .int .u64 0, .int .u64 0]) Tryd.zeroValue41 rfl) rfl (fun _ _ => ?_)
 refine sq_m0 (m_stores (i := 0) (vs := [.int .i64 (((prowAt big false bs p).type : Nat) : Int), .int .i64 0, .int .u64 0, .int .u64 0, .int .u64 0, .int .u64 0, .int .u64 0, .int .u64 0]) (l' := [.int .i64 (((prowAt big false bs p).type : Nat) : Int), .int .i64 0, .int .u64 0, .int .u64 0, .int .u64 0, .int .u64 0, .int .u64 0, .int .u64 0]) rfl rfl Tryd.sizeOf41 rfl rfl rfl (by simp) rfl rfl (by intro h; omega)) (fun _ _ => ?_)
 refine sqK [0, 2, 3] rfl ?_
 refine sc_seq ?_
 refine scR ?_
 refine sqM rfl rfl ?_
 refine sq_q (q_nil rfl) rfl ?_
 refine sq_q (q_fieldj (j := 1) rfl Tryd.runUnderlying45 rfl Tryd.sizeOf4 rfl) rfl ?_
 refine sq_q (q_load1 rfl Tryd.isAgg4 (i := 2) rfl rfl) rfl ?_
 refine sqK [0, 2, 3, 11] rfl ?_
 refine sc_cond_f rfl ?_
 refine scS ?_
 refine scK [0, 2, 3] rfl ?_
 refine scR ?_
 refine sqM rfl rfl ?_
 refine sq_m (take_inv (sz := 4) (s := 0) (v := (prowAt big false bs p).off) (i := 2) (j := 3) (p := p + 4) (.inr ⟨rfl, rfl⟩) rfl rfl rfl rfl hne hat (by omega) (by omega) rfl (by omega) (by omega) (adv_lt (by omega) rfl) rfl (fun _ => rfl)) rfl (fun _ _ => ?_)
 refine sqM rfl rfl ?_
 refine sq_m (take_inv (sz := 4) (s := 0) (v := (prowAt big false bs p).vaddr) (i := 2) (j := 3) (p := p + 8) (.inr ⟨rfl, rfl⟩) rfl rfl rfl rfl hne hat (by omega) (by omega) rfl (by omega) (by omega) (adv_lt (by omega) rfl) rfl (fun _ => rfl)) rfl (fun _ _ => ?_)
 refine sqM rfl rfl ?_
 refine sq_m (take_inv (sz := 4) (s := 0) (v := (prowAt big false bs p).paddr) (i := 2) (j := 3) (p := p + 12) (.inr ⟨rfl, rfl⟩) rfl rfl rfl rfl hne hat (by omega) (by omega) rfl (by omega) (by omega) (adv_lt (by omega) rfl) rfl (fun _ => rfl)) rfl (fun _ _ => ?_)
 refine sqM rfl rfl ?_
 refine sq_m (take_inv (sz := 4) (s := 0) (v := (prowAt big false bs p).filesz) (i := 2) (j := 3) (p := p + 16) (.inr ⟨rfl, rfl⟩) rfl rfl rfl rfl hne hat (by omega) (by omega) rfl (by omega) (by omega) (adv_lt (by omega) rfl) rfl (fun _ => rfl)) rfl (fun _ _ => ?_)
 refine sqM rfl rfl ?_
 refine sq_m (take_inv (sz := 4) (s := 0) (v := (prowAt big false bs p).memsz) (i := 2) (j := 3) (p := p + 20) (.inr ⟨rfl, rfl⟩) rfl rfl rfl rfl hne hat (by omega) (by omega) rfl (by omega) (by omega) (adv_lt (by omega) rfl) rfl (fun _ => rfl)) rfl (fun _ _ => ?_)
 refine sq_q (q_fieldj (j := 2) rfl Tryd.runUnderlying41 rfl Tryd.sizeOf23 rfl) rfl ?_
 refine sq_m0 ((m_store rfl rfl Tryd.sizeOf23 rfl (i := 0) rfl rfl rfl (by intro h; omega))) (fun _ _ => ?_)
 refine sq_q (q_fieldj (j := 3) rfl Tryd.runUnderlying41 rfl Tryd.sizeOf23 rfl) rfl ?_
 refine sq_m0 ((m_store rfl rfl Tryd.sizeOf23 rfl (i := 0) rfl rfl rfl (by intro h; omega))) (fun _ _ => ?_)
 refine sq_q (q_fieldj (j := 4) rfl Tryd.runUnderlying41 rfl Tryd.sizeOf23 rfl) rfl ?_
 refine sq_m0 ((m_store rfl rfl Tryd.sizeOf23 rfl (i := 0) rfl rfl rfl (by intro h; omega))) (fun _ _ => ?_)
 refine sq_q (q_fieldj (j := 5) rfl Tryd.runUnderlying41 rfl Tryd.sizeOf23 rfl) rfl ?_
 refine sq_m0 ((m_store rfl rfl Tryd.sizeOf23 rfl (i := 0) rfl rfl rfl (by intro h; omega))) (fun _ _ => ?_)
 refine sq_q (q_fieldj (j := 6) rfl Tryd.runUnderlying41 rfl Tryd.sizeOf23 rfl) rfl ?_
 refine sq_m0 ((m_store rfl rfl Tryd.sizeOf23 rfl (i := 0) rfl rfl rfl (by intro h; omega))) (fun _ _ => ?_)
 refine sqK [0, 2, 3] rfl ?_
 refine sc_seq ?_
 refine scR ?_
 refine sqM rfl rfl ?_
 refine sq_q (q_nil rfl) rfl ?_
 refine sq_q (q_fieldj (j := 1) rfl Tryd.runUnderlying45 rfl Tryd.sizeOf4 rfl) rfl ?_
 refine sq_q (q_load1 rfl Tryd.isAgg4 (i := 2) rfl rfl) rfl ?_
 refine sq_q (q_not' rfl) rfl ?_
 refine sqK [0, 2, 3, 35] rfl ?_
 refine sc_cond_t rfl ?_
 refine sc_region ?_
 refine sqM rfl rfl ?_
 refine sq_m (take_inv (sz := 4) (s := 4) (v := (prowAt big false bs p).flags) (i := 2) (j := 3) (p := p + 24) (.inl ⟨rfl, by omega, by omega⟩) rfl rfl rfl rfl hne hat (by omega) (by omega) rfl (by omega) (by omega) (adv_lt (by omega) rfl) rfl (fun _ => rfl)) rfl (fun _ _ => ?_)
 refine sq_q (q_conv rfl Tryd.runUnderlying23 Tryd.runUnderlying3 (w_i64 (by omega) (by omega))) rfl ?_
 refine sq_q (q_fieldj (j := 1) rfl Tryd.runUnderlying41 rfl Tryd.sizeOf3 rfl) rfl ?_
 refine sq_m0 ((m_store rfl rfl Tryd.sizeOf3 rfl (i := 0) rfl rfl rfl (by intro h; omega))) (fun _ _ => ?_)
 refine sqKR [0, 2, 3] rfl ?_
 refine sqM rfl rfl ?_
 refine sq_m (take_inv (sz := 4) (s := 0) (v := (prowAt big false bs p).align) (i := 2) (j := 3) (p := p + 28) (.inr ⟨rfl, rfl⟩) rfl rfl rfl rfl hne hat (by omega) (by omega) rfl (by omega) (by omega) rfl rfl (fun _ => rfl)) rfl (fun _ _ => ?_)
 refine sq_q (q_fieldj (j := 7) rfl Tryd.runUnderlying41 rfl Tryd.sizeOf23 rfl) rfl ?_
 refine sq_m0 ((m_store rfl rfl Tryd.sizeOf23 rfl (i := 0) rfl rfl rfl (by intro h; omega))) (fun _ _ => ?_)
 refine sqKR [2, 3] rfl ?_
 refine sq_q (q_loadK rfl Tryd.isAgg41 Tryd.sizeOf41 (i := 0) (vs := prgV (prowAt big false bs p)) rfl rfl) rfl ?_
 refine sq_m0 (m_stores (i := 1) (vs := prgV (prowAt big false bs p)) (l' := prgV (prowAt big false bs p)) rfl rfl Tryd.sizeOf41 rfl rfl rfl (by simp) rfl rfl (by intro h; omega)) (fun _ _ => ?_)
 refine sqK [2] rfl ?_
 refine sc_ret ?_
 exact se_end (resc Tryd.results13 rfl Tryd.isAgg41 Tryd.sizeOf41 (i := 1) rfl rfl) (fun w' hw => ⟨rfl, hw.eff⟩)

theorem row19_true {big : Bool} {fb ab o ao p m c : Nat} {bs : List UInt8} {l : List Value} {e : TypeId} {fr : Nat × Nat} {w : World} (hf : w.heap[fb]? = some (.cells [.slice (some ⟨ab, o, none⟩) m c, .bool true, .bool big].toArray 45 (0, 0))) (hb : w.heap[ab]? = some (.cells l.toArray e fr)) (hne : fb ≠ ab) (hat : At l ao bs) (ho : o = ao + p) (hp : p + 64 ≤ bs.length) (hm : 64 ≤ m) (hc : m ≤ c) :
  Calls Tryd.prog 19 #[.pointer (some ⟨fb, 0, none⟩)] w fun en w' => en = .returned (.tuple #[.int .u64 (((srowAt big true bs p).name : Nat) : Int), .agg (secV [] (srowAt big true bs p)).toArray]) ∧ Eff (fun k => k = fb) w w' := by
 obtain ⟨q1, q2, q3, q4, q5, q6, q7, q8, q9, q10⟩ := srowAt_lt big true bs p
 obtain ⟨fl, hfl⟩ : ∃ fl, fld big bs (p + 8) 8 = fl := ⟨_, rfl⟩
 have hfl2 : fl % 4294967296 = (srowAt big true bs p).flags := by rw [← hfl]; rfl
 refine begins (fun k => k = fb) Tryd.func19 rfl Tryd.ntmps19 rfl [(0, _)] ⟨rfl, trivial⟩ [(fb, .cells [.slice (some ⟨ab, o, none⟩) m c, .bool true, .bool big].toArray 45 (0, 0)), (ab, .cells l.toArray e fr)] ⟨hf, hb, trivial⟩ (by simp [hne]) ?_
 refine scR ?_
 refine sqA rfl rfl ?_
 refine sq_m (m_alloc (l := [.string ⟨#[]⟩, .int .i64 0, .int .i64 0, .int .u64 0, .int .u64 0, .int .u64 0, .int .i64 0, .int .i64 0, .int .u64 0, .int .u64 0, .int .u64 0]) Tryd.zeroValue39 rfl) rfl (fun _ _ => ?_)
 refine sqKR [0, 3] rfl ?_
 refine sqM rfl rfl ?_
 refine sq_m (take_inv (sz := 4) (s := 4) (v := (srowAt big true bs p).name) (i := 1) (j := 2) (p := p + 0) (.inl ⟨rfl, by omega, by omega⟩) rfl rfl rfl rfl hne hat (by omega) (by omega) rfl (by omega) (by omega) (adv_lt (by omega) rfl) rfl (fun _ => rfl)) rfl (fun _ _ => ?_)
 refine sqA rfl rfl ?_
 refine sqKR [0, 3, 4] rfl ?_
 refine sqM rfl rfl ?_
 refine sq_m (take_inv (sz := 4) (s := 4) (v := (srowAt big true bs p).type) (i := 1) (j := 2) (p := p + 4) (.inl ⟨rfl, by omega, by omega⟩) rfl rfl rfl rfl hne hat (by omega) (by omega) rfl (by omega) (by omega) (adv_lt (by omega) rfl) rfl (fun _ => rfl)) rfl (fun _ _ => ?_)
 refine sq_q (q_conv rfl Tryd.runUnderlying23 Tryd.runUnderlying3 (w_i64 (by omega) (by omega))) rfl ?_
 refine sqM rfl rfl ?_
 refine sq_m (take_inv (sz := 8) (s := 0) (v := fl) (i := 1) (j := 2) (p := p + 8) (.inr ⟨rfl, rfl⟩) rfl rfl rfl rfl hne hat (by omega) (by omega) hfl (by omega) (by omega) (adv_lt (by omega) rfl) rfl (fun _ => rfl)) rfl (fun _ _ => ?_)
 refine sq_q (q_conv (r := (((srowAt big true bs p).flags : Nat) : Int)) rfl Tryd.runUnderlying23 Tryd.runUnderlying74 (by rw [m_u32, ← hfl2]; omega)) rfl ?_
 refine sq_q (q_conv rfl Tryd.runUnderlying74 Tryd.runUnderlying3 (w_i64 (by omega) (by omega))) rfl ?_
 refine sq_q (q_build (vs := [(1, .int .i64 (((srowAt big true bs p).type : Nat) : Int)), (2, .int .i64 (((srowAt big true bs p).flags : Nat) : Int))]) (cs := #[.string ⟨#[]⟩, .int .i64 (((srowAt big true bs p).type : Nat) : Int), .int .i64 (((srowAt big true bs p).flags : Nat) : Int), .int .u64 0, .int .u64 0, .int .u64 0, .int .i64 0, .int .i64 0, .int .u64 0, .int .u64 0, .int .u64 0]) ⟨rfl, rfl, rfl, rfl, trivial⟩ (fun _ => by kernel_rfl)) rfl ?_
 refine sq_m (m_alloc (l := [.string ⟨#[]⟩, .int .i64 0, .int .i64 0, .int .u64 0, .int .u64 0, .int .u64 0, .int .i64 0, .int .i64 0, .int .u64 0, .int .u64 0, .int .u64 0]) Tryd.zeroValue39 rfl) rfl (fun _ _ => ?_)
 refine sq_m0 (m_stores (i := 0) (vs := [.string ⟨#[]⟩, .int .i64 (((srowAt big true bs p).type : Nat) : Int), .int .i64 (((srowAt big true bs p).flags : Nat) : Int), .int .u64 0, .int .u64 0, .int .u64 0, .int .i64 0, .int .i64 0, .int .u64 0, .int .u64 0, .int .u64 0]) (l' := [.string ⟨#[]⟩, .int .i64 (((srowAt big true bs p).type : Nat) : Int), .int .i64 (((srowAt big true bs p).flags : Nat) : Int), .int .u64 0, .int .u64 0, .int .u64 0, .int .i64 0, .int .i64 0, .int .u64 0, .int .u64 0, .int .u64 0]) rfl rfl Tryd.sizeOf39 rfl rfl rfl (by simp) rfl rfl (by intro h; omega)) (fun _ _ => ?_)
 refine sqKR [0, 3, 4, 5] rfl ?_
 refine sqM rfl rfl ?_
 refine sq_m (take_inv (sz := 8) (s := 0) (v := (srowAt big true bs p).addr) (i := 2) (j := 3) (p := p + 16) (.inr ⟨rfl, rfl⟩) rfl rfl rfl rfl hne hat (by omega) (by omega) rfl (by omega) (by omega) (adv_lt (by omega) rfl) rfl (fun _ => rfl)) rfl (fun _ _ => ?_)
 refine sqM rfl rfl ?_
 refine sq_m (take_inv (sz := 8) (s := 0) (v := (srowAt big true bs p).off) (i := 2) (j := 3) (p := p + 24) (.inr ⟨rfl, rfl⟩) rfl rfl rfl rfl hne hat (by omega) (by omega) rfl (by omega) (by omega) (adv_lt (by omega) rfl) rfl (fun _ => rfl)) rfl (fun _ _ => ?_)
 refine sqM rfl rfl ?_
 refine sq_m (take_inv (sz := 8) (s := 0) (v := (srowAt big true bs p).size) (i := 2) (j := 3) (p := p + 32) (.inr ⟨rfl, rfl⟩) rfl rfl rfl rfl hne hat (by omega) (by omega) rfl (by omega) (by omega) (adv_lt (by omega) rfl) rfl (fun _ => rfl)) rfl (fun _ _ => ?_)
 refine sq_q (q_fieldj (j := 3) rfl Tryd.runUnderlying39 rfl Tryd.sizeOf23 rfl) rfl ?_
 refine sq_m0 ((m_store rfl rfl Tryd.sizeOf23 rfl (i := 0) rfl rfl rfl (by intro h; omega))) (fun _ _ => ?_)
 refine sq_q (q_fieldj (j := 4) rfl Tryd.runUnderlying39 rfl Tryd.sizeOf23 rfl) rfl ?_
 refine sq_m0 ((m_store rfl rfl Tryd.sizeOf23 rfl (i := 0) rfl rfl rfl (by intro h; omega))) (fun _ _ => ?_)
 refine sq_q (q_fieldj (j := 10) rfl Tryd.runUnderlying39 rfl Tryd.sizeOf23 rfl) rfl ?_
 refine sq_m0 ((m_store rfl rfl Tryd.sizeOf23 rfl (i := 0) rfl rfl rfl (by intro h; omega))) (fun _ _ => ?_)
 refine sqKR [0, 3, 4, 5] rfl ?_
 refine sqM rfl rfl ?_
 refine sq_m (take_inv (sz := 4) (s := 4) (v := (srowAt big true bs p).link) (i := 2) (j := 3) (p := p + 40) (.inl ⟨rfl, by omega, by omega⟩) rfl rfl rfl rfl hne hat (by omega) (by omega) rfl (by omega) (by omega) (adv_lt (by omega) rfl) rfl (fun _ => rfl)) rfl (fun _ _ => ?_)
 refine sq_q (q_conv rfl Tryd.runUnderlying23 Tryd.runUnderlying3 (w_i64 (by omega) (by omega))) rfl ?_
 refine sqM rfl rfl ?_
 refine sq_m (take_inv (sz := 4) (s := 4) (v := (srowAt big true bs p).info) (i := 2) (j := 3) (p := p + 44) (.inl ⟨rfl, by omega, by omega⟩) rfl rfl rfl rfl hne hat (by omega) (by omega) rfl (by omega) (by omega) (adv_lt (by omega) rfl) rfl (fun _ => rfl)) rfl (fun _ _ => ?_)
 refine sq_q (q_conv rfl Tryd.runUnderlying23 Tryd.runUnderlying3 (w_i64 (by omega) (by omega))) rfl ?_
 refine sq_q (q_fieldj (j := 6) rfl Tryd.runUnderlying39 rfl Tryd.sizeOf3 rfl) rfl ?_
 refine sq_m0 ((m_store rfl rfl Tryd.sizeOf3 rfl (i := 0) rfl rfl rfl (by intro h; omega))) (fun _ _ => ?_)
 refine sq_q (q_fieldj (j := 7) rfl Tryd.runUnderlying39 rfl Tryd.sizeOf3 rfl) rfl ?_
 refine sq_m0 ((m_store rfl rfl Tryd.sizeOf3 rfl (i := 0) rfl rfl rfl (by intro h; omega))) (fun _ _ => ?_)
 refine sqKR [0, 3, 4, 5] rfl ?_
 refine sqM rfl rfl ?_
 refine sq_m (take_inv (sz := 8) (s := 0) (v := (srowAt big true bs p).align) (i := 2) (j := 3) (p := p + 48) (.inr ⟨rfl, rfl⟩) rfl rfl rfl rfl hne hat (by omega) (by omega) rfl (by omega) (by omega) (adv_lt (by omega) rfl) rfl (fun _ => rfl)) rfl (fun _ _ => ?_)
 refine sqM rfl rfl ?_
 refine sq_m (take_inv (sz := 8) (s := 0) (v := (srowAt big true bs p).ents) (i := 2) (j := 3) (p := p + 56) (.inr ⟨rfl, rfl⟩) rfl rfl rfl rfl hne hat (by omega) (by omega) rfl (by omega) (by omega) rfl rfl (fun _ => rfl)) rfl (fun _ _ => ?_)
 refine sq_q (q_fieldj (j := 8) rfl Tryd.runUnderlying39 rfl Tryd.sizeOf23 rfl) rfl ?_
 refine sq_m0 ((m_store rfl rfl Tryd.sizeOf23 rfl (i := 0) rfl rfl rfl (by intro h; omega))) (fun _ _ => ?_)
 refine sq_q (q_fieldj (j := 9) rfl Tryd.runUnderlying39 rfl Tryd.sizeOf23 rfl) rfl ?_
 refine sq_m0 ((m_store rfl rfl Tryd.sizeOf23 rfl (i := 0) rfl rfl rfl (by intro h; omega))) (fun _ _ => ?_)
 refine sqKR [3, 4, 5] rfl ?_
 refine sq_q (q_fieldj (j := 10) rfl Tryd.runUnderlying39 rfl Tryd.sizeOf23 rfl) rfl ?_
 refine sq_q (q_load1 rfl Tryd.isAgg23 (i := 0) rfl rfl) rfl ?_
 refine sq_q (q_fieldj (j := 5) rfl Tryd.runUnderlying39 rfl Tryd.sizeOf23 rfl) rfl ?_
 refine sq_m0 ((m_store rfl rfl Tryd.sizeOf23 rfl (i := 0) rfl rfl rfl (by intro h; omega))) (fun _ _ => ?_)
 refine sqK [3, 4, 5] rfl ?_
 refine sc_seq ?_
 refine sc_draw [0, 1, 2, 3] [3] [(w.heap.size + 1, .cells (secV [] (srowAt big true bs p)).toArray 39 (0, 0))] mixed (by kernel_rfl) (by kernel_rfl) (fun p h => by rw [List.mem_singleton.1 h]; exact List.mem_cons_self) ?_
 refine drM rfl rfl rfl ?_
 refine dr_q rfl rfl (q_loadK rfl Tryd.isAgg39 Tryd.sizeOf39 (i := 0) (vs := (secV [] (srowAt big true bs p))) rfl rfl) ?_
 refine drA rfl rfl rfl ?_
 refine dr_m0 rfl rfl (m_stores (i := 1) (vs := (secV [] (srowAt big true bs p))) (l' := (secV [] (srowAt big true bs p))) rfl rfl Tryd.sizeOf39 rfl rfl rfl (by simp) rfl rfl (by intro h; omega)) (fun _ _ p h => by rw [List.mem_singleton.1 h]; exact List.mem_cons_self) (fun _ _ => ?_)
 refine dr_nil ?_
 refine se_seq ?_
 refine scK [2, 3] rfl ?_
 refine sc_ret ?_
 exact se_end (restc Tryd.results19 rfl rfl Tryd.isAgg39 Tryd.sizeOf39 (i := 1) rfl rfl) (fun w' hw => ⟨rfl, hw.eff⟩)

theorem row19_false {big : Bool} {fb ab o ao p m c : Nat} {bs : List UInt8} {l : List Value} {e : TypeId} {fr : Nat × Nat} {w : World} (hf : w.heap[fb]? = some (.cells [.slice (some ⟨ab, o, none⟩) m c, .bool false, .bool big].toArray 45 (0, 0))) (hb : w.heap[ab]? = some (.cells l.toArray e fr)) (hne : fb ≠ ab) (hat : At l ao bs) (ho : o = ao + p) (hp : p + 40 ≤ bs.length) (hm : 40 ≤ m) (hc : m ≤ c) :
  Calls Tryd.prog 19 #[.pointer (some ⟨fb, 0, none⟩)] w fun en w' => en = .returned (.tuple #[.int .u64 (((srowAt big false bs p).name : Nat) : Int), .agg (secV [] (srowAt big false bs p)).toArray]) ∧ Eff (fun k => k = fb) w w' := by
 obtain ⟨q1, q2, q3, q4, q5, q6, q7, q8, q9, q10⟩ := srowAt_lt big false bs p
 refine begins (fun k => k = fb) Tryd.func19 rfl Tryd.ntmps19 rfl [(0, _)] ⟨rfl, trivial⟩ [(fb, .cells [.slice (some ⟨ab, o, none⟩) m c, .bool false, .bool big].toArray 45 (0, 0)), (ab, .cells l.toArray e fr)] ⟨hf, hb, trivial⟩ (by simp [hne]) ?_
 refine scR ?_
 refine sqA rfl rfl ?_
 refine sq_m (m_alloc (l := [.string ⟨#[]⟩, .int .i64 0, .int .i64 0, .int .u64 0, .int .u64 0, .int .u64 0, .int .i64 0, .int .i64 0, .int .u64 0, .int .u64 0, .int .u64 0]) Tryd.zeroValue39 rfl) rfl (fun _ _ => ?_)
 refine sqKR [0, 3] rfl ?_
 refine sqM rfl rfl ?_
 refine sq_m (take_inv (sz := 4) (s := 4) (v := (srowAt big false bs p).name) (i := 1) (j := 2) (p := p + 0) (.inl ⟨rfl, by omega, by omega⟩) rfl rfl rfl rfl hne hat (by omega) (by omega) rfl (by omega) (by omega) (adv_lt (by omega) rfl) rfl (fun _ => rfl)) rfl (fun _ _ => ?_)
 refine sqA rfl rfl ?_
 refine sqKR [0, 3, 4] rfl ?_
 refine sqM rfl rfl ?_
 refine sq_m (take_inv (sz := 4) (s := 4) (v := (srowAt big false bs p).type) (i := 1) (j := 2) (p := p + 4) (.inl ⟨rfl, by omega, by omega⟩) rfl rfl rfl rfl hne hat (by omega) (by omega) rfl (by omega) (by omega) (adv_lt (by omega) rfl) rfl (fun _ => rfl)) rfl (fun _ _ => ?_)
 refine sq_q (q_conv rfl Tryd.runUnderlying23 Tryd.runUnderlying3 (w_i64 (by omega) (by omega))) rfl ?_
 refine sqM rfl rfl ?_
 refine sq_m (take_inv (sz := 4) (s := 0) (v := (srowAt big false bs p).flags) (i := 1) (j := 2) (p := p + 8) (.inr ⟨rfl, rfl⟩) rfl rfl rfl rfl hne hat (by omega) (by omega) rfl (by omega) (by omega) (adv_lt (by omega) rfl) rfl (fun _ => rfl)) rfl (fun _ _ => ?_)
 refine sq_q (q_conv (r := (((srowAt big false bs p).flags : Nat) : Int)) rfl Tryd.runUnderlying23 Tryd.runUnderlying74 (w_u32 (by omega) (by omega))) rfl ?_
 refine sq_q (q_conv rfl Tryd.runUnderlying74 Tryd.runUnderlying3 (w_i64 (by omega) (by omega))) rfl ?_
 refine sq_q (q_build (vs := [(1, .int .i64 (((srowAt big false bs p).type : Nat) : Int)), (2, .int .i64 (((srowAt big false bs p).flags : Nat) : Int))]) (cs := #[.string ⟨#[]⟩, .int .i64 (((srowAt big false bs p).type : Nat) : Int), .int .i64 (((srowAt big false bs p).flags : Nat) : Int), .int .u64 0, .int .u64 0, .int .u64 0, .int .i64 0, .int .i64 0, .int .u64 0, .int .u64 0, .int .u64 0]) ⟨rfl, rfl, rfl, rfl, trivial⟩ (fun _ => by kernel_rfl)) rfl ?_
 refine sq_m (m_alloc (l := [.string ⟨#[]⟩, .int .i64 0, .int .i64 0, .int .u64 0, .int .u64 0, .int .u64 0, .int .i64 0, .int .i64 0, .int .u64 0, .int .u64 0, .int .u64 0]) Tryd.zeroValue39 rfl) rfl (fun _ _ => ?_)
 refine sq_m0 (m_stores (i := 0) (vs := [.string ⟨#[]⟩, .int .i64 (((srowAt big false bs p).type : Nat) : Int), .int .i64 (((srowAt big false bs p).flags : Nat) : Int), .int .u64 0, .int .u64 0, .int .u64 0, .int .i64 0, .int .i64 0, .int .u64 0, .int .u64 0, .int .u64 0]) (l' := [.string ⟨#[]⟩, .int .i64 (((srowAt big false bs p).type : Nat) : Int), .int .i64 (((srowAt big false bs p).flags : Nat) : Int), .int .u64 0, .int .u64 0, .int .u64 0, .int .i64 0, .int .i64 0, .int .u64 0, .int .u64 0, .int .u64 0]) rfl rfl Tryd.sizeOf39 rfl rfl rfl (by simp) rfl rfl (by intro h; omega)) (fun _ _ => ?_)
 refine sqKR [0, 3, 4, 5] rfl ?_
 refine sqM rfl rfl ?_
 refine sq_m (take_inv (sz := 4) (s := 0) (v := (srowAt big false bs p).addr) (i := 2) (j := 3) (p := p + 12) (.inr ⟨rfl, rfl⟩) rfl rfl rfl rfl hne hat (by omega) (by omega) rfl (by omega) (by omega) (adv_lt (by omega) rfl) rfl (fun _ => rfl)) rfl (fun _ _ => ?_)
 refine sqM rfl rfl ?_
 refine sq_m (take_inv (sz := 4) (s := 0) (v := (srowAt big false bs p).off) (i := 2) (j := 3) (p := p + 16) (.inr ⟨rfl, rfl⟩) rfl rfl rfl rfl hne hat (by omega) (by omega) rfl (by omega) (by omega) (adv_lt (by omega) rfl) rfl (fun _ => rfl)) rfl (fun _ _ => ?_)
 refine sqM rfl rfl ?_
 refine sq_m (take_inv (sz := 4) (s := 0) (v := (srowAt big false bs p).size) (i := 2) (j := 3) (p := p + 20) (.inr ⟨rfl, rfl⟩) rfl rfl rfl rfl hne hat (by omega) (by omega) rfl (by omega) (by omega) (adv_lt (by omega) rfl) rfl (fun _ => rfl)) rfl (fun _ _ => ?_)
 refine sq_q (q_fieldj (j := 3) rfl Tryd.runUnderlying39 rfl Tryd.sizeOf23 rfl) rfl ?_
 refine sq_m0 ((m_store rfl rfl Tryd.sizeOf23 rfl (i := 0) rfl rfl rfl (by intro h; omega))) (fun _ _ => ?_)
 refine sq_q (q_fieldj (j := 4) rfl Tryd.runUnderlying39 rfl Tryd.sizeOf23 rfl) rfl ?_
 refine sq_m0 ((m_store rfl rfl Tryd.sizeOf23 rfl (i := 0) rfl rfl rfl (by intro h; omega))) (fun _ _ => ?_)
 refine sq_q (q_fieldj (j := 10) rfl Tryd.runUnderlying39 rfl Tryd.sizeOf23 rfl) rfl ?_
 refine sq_m0 ((m_store rfl rfl Tryd.sizeOf23 rfl (i := 0) rfl rfl rfl (by intro h; omega))) (fun _ _ => ?_)
 refine sqKR [0, 3, 4, 5] rfl ?_
 refine sqM rfl rfl ?_
 refine sq_m (take_inv (sz := 4) (s := 4) (v := (srowAt big false bs p).link) (i := 2) (j := 3) (p := p + 24) (.inl ⟨rfl, by omega, by omega⟩) rfl rfl rfl rfl hne hat (by omega) (by omega) rfl (by omega) (by omega) (adv_lt (by omega) rfl) rfl (fun _ => rfl)) rfl (fun _ _ => ?_)
 refine sq_q (q_conv rfl Tryd.runUnderlying23 Tryd.runUnderlying3 (w_i64 (by omega) (by omega))) rfl ?_
 refine sqM rfl rfl ?_
 refine sq_m (take_inv (sz := 4) (s := 4) (v := (srowAt big false bs p).info) (i := 2) (j := 3) (p := p + 28) (.inl ⟨rfl, by omega, by omega⟩) rfl rfl rfl rfl hne hat (by omega) (by omega) rfl (by omega) (by omega) (adv_lt (by omega) rfl) rfl (fun _ => rfl)) rfl (fun _ _ => ?_)
 refine sq_q (q_conv rfl Tryd.runUnderlying23 Tryd.runUnderlying3 (w_i64 (by omega) (by omega))) rfl ?_
 refine sq_q (q_fieldj (j := 6) rfl Tryd.runUnderlying39 rfl Tryd.sizeOf3 rfl) rfl ?_
 refine sq_m0 ((m_store rfl rfl Tryd.sizeOf3 rfl (i := 0) rfl rfl rfl (by intro h; omega))) (fun _ _ => ?_)
 refine sq_q (q_fieldj (j := 7) rfl Tryd.runUnderlying39 rfl Tryd.sizeOf3 rfl) rfl ?_
 refine sq_m0 ((m_store rfl rfl Tryd.sizeOf3 rfl (i := 0) rfl rfl rfl (by intro h; omega))) (fun _ _ => ?_)
 refine sqKR [0, 3, 4, 5] rfl ?_
 refine sqM rfl rfl ?_
 refine sq_m (take_inv (sz := 4) (s := 0) (v := (srowAt big false bs p).align) (i := 2) (j := 3) (p := p + 32) (.inr ⟨rfl, rfl⟩) rfl rfl rfl rfl hne hat (by omega) (by omega) rfl (by omega) (by omega) (adv_lt (by omega) rfl) rfl (fun _ => rfl)) rfl (fun _ _ => ?_)
 refine sqM rfl rfl ?_
 refine sq_m (take_inv (sz := 4) (s := 0) (v := (srowAt big false bs p).ents) (i := 2) (j := 3) (p := p + 36) (.inr ⟨rfl, rfl⟩) rfl rfl rfl rfl hne hat (by omega) (by omega) rfl (by omega) (by omega) rfl rfl (fun _ => rfl)) rfl (fun _ _ => ?_)
 refine sq_q (q_fieldj (j := 8) rfl Tryd.runUnderlying39 rfl Tryd.sizeOf23 rfl) rfl ?_
 refine sq_m0 ((m_store rfl rfl Tryd.sizeOf23 rfl (i := 0) rfl rfl rfl (by intro h; omega))) (fun _ _ => ?_)
 refine sq_q (q_fieldj (j := 9) rfl Tryd.runUnderlying39 rfl Tryd.sizeOf23 rfl) rfl ?_
 refine sq_m0 ((m_store rfl rfl Tryd.sizeOf23 rfl (i := 0) rfl rfl rfl (by intro h; omega))) (fun _ _ => ?_)
 refine sqKR [3, 4, 5] rfl ?_
 refine sq_q (q_fieldj (j := 10) rfl Tryd.runUnderlying39 rfl Tryd.sizeOf23 rfl) rfl ?_
 refine sq_q (q_load1 rfl Tryd.isAgg23 (i := 0) rfl rfl) rfl ?_
 refine sq_q (q_fieldj (j := 5) rfl Tryd.runUnderlying39 rfl Tryd.sizeOf23 rfl) rfl ?_
 refine sq_m0 ((m_store rfl rfl Tryd.sizeOf23 rfl (i := 0) rfl rfl rfl (by intro h; omega))) (fun _ _ => ?_)
 refine sqK [3, 4, 5] rfl ?_
 refine sc_seq ?_
 refine sc_draw [0, 1, 2, 3] [3] [(w.heap.size + 1, .cells (secV [] (srowAt big false bs p)).toArray 39 (0, 0))] mixed (by kernel_rfl) (by kernel_rfl) (fun p h => by rw [List.mem_singleton.1 h]; exact List.mem_cons_self) ?_
 refine drM rfl rfl rfl ?_
 refine dr_q rfl rfl (q_loadK rfl Tryd.isAgg39 Tryd.sizeOf39 (i := 0) (vs := (secV [] (srowAt big false bs p))) rfl rfl) ?_
 refine drA rfl rfl rfl ?_
 refine dr_m0 rfl rfl (m_stores (i := 1) (vs := (secV [] (srowAt big false bs p))) (l' := (secV [] (srowAt big false bs p))) rfl rfl Tryd.sizeOf39 rfl rfl rfl (by simp) rfl rfl (by intro h; omega)) (fun _ _ p h => by rw [List.mem_singleton.1 h]; exact List.mem_cons_self) (fun _ _ => ?_)
 refine dr_nil ?_
 refine se_seq ?_
 refine scK [2, 3] rfl ?_
 refine sc_ret ?_
 exact se_end (restc Tryd.results19 rfl rfl Tryd.isAgg39 Tryd.sizeOf39 (i := 1) rfl rfl) (fun w' hw => ⟨rfl, hw.eff⟩)

end Go.Proofs.YtgkjnkhoopcjgaaDoor
/- A region that draws its order, where two operations that turn memory may come in either order. No condition. -/
namespace Go.Sx
variable {P : Program}

/-- The orders, as a tree: a quiet operation, one that turns memory, or a choice of two. -/
inductive OT where
  | nil
  | q (i : Nat) (t : OT)
  | m (i : Nat) (t : OT)
  | m2 (i j : Nat) (s t : OT)
def OT.path : OT → List Nat
  | .nil => []
  | .q i t => i :: t.path
  | .m i t => i :: t.path
  | .m2 i _ s _ => i :: s.path
def OT.paths : OT → List (List Nat)
  | .nil => [[]]
  | .q i t => t.paths.map (i :: ·)
  | .m i t => t.paths.map (i :: ·)
  | .m2 i j s t => s.paths.map (i :: ·) ++ t.paths.map (j :: ·)
theorem OT.path_mem : ∀ t : OT, t.path ∈ t.paths
  | .nil => by simp [OT.path, OT.paths]
  | .q i t => List.mem_map_of_mem (OT.path_mem t)
  | .m i t => List.mem_map_of_mem (OT.path_mem t)
  | .m2 i j s t => List.mem_append_left _ (List.mem_map_of_mem (OT.path_mem s))
def OT.ok (ops : Array Oper) : OT → Bool
  | .nil => true
  | .q _ t => t.ok ops
  | .m i t => (t.path.all fun k => ((dmasks ops.toList []).getD k 0).testBit i) && t.ok ops
  | .m2 i j s t => (s.path.all fun k => k == j || ((dmasks ops.toList []).getD k 0).testBit i || ((dmasks ops.toList []).getD k 0).testBit j) && s.ok ops && t.ok ops
def chkT (ops : Array Oper) (t : OT) : Bool := (t.paths.all fun π => drawChk ops π []) && t.ok ops

def MainG (P : Program) (ops : Array Oper) (mp : MM) (i : Nat) (D : FM → (World → Prop) → Prop) (fm : FM) (M : World → Prop) : Prop :=
  ∃ o, ops[i]? = some o ∧ o.guard = none ∧ ∃ (ι : Type) (V : ι → Value) (M' : ι → World → Prop), (∀ x w w', M' x w → Same w w' → M' x w') ∧ ((∀ x w, M' x w → Has mp w) ∨ lastChk ops i = true) ∧
    (∀ ρ, Agr fm ρ → ∀ w, M w → Out P (fun u w' => ∃ x, u = V x ∧ M' x w') ((execOp ρ o).run P w)) ∧ ∀ x, D (fm.put o.dst (V x)) (M' x)
def DrT (P : Program) (ops : Array Oper) (mp : MM) (K : FM → (World → Prop) → Prop) : OT → FM → (World → Prop) → Prop
  | .nil, fm, M => K fm M
  | .q i t, fm, M => ∃ o, ops[i]? = some o ∧ ∃ v, QuietG P ops fm mp o v ∧ DrT P ops mp K t (fm.put o.dst v) M
  | .m i t, fm, M => MainG P ops mp i (DrT P ops mp K t) fm M
  | .m2 i j s t, fm, M => MainG P ops mp i (DrT P ops mp K s) fm M ∧ MainG P ops mp j (DrT P ops mp K t) fm M

section
variable {ops : Array Oper} {mp : MM} {K : FM → (World → Prop) → Prop} {n : Nat} {fm0 : FM}

structure InvT (P : Program) (ops : Array Oper) (mp : MM) (K : FM → (World → Prop) → Prop) (n : Nat) (fm0 : FM) (done : List Nat) (T : OT) (fm : FM) (M : World → Prop) (listed : Array Bool) (a : Act) (w : World) : Prop where
  lsize : listed.size = ops.size
  closed : Closed ops (Lst listed)
  tsize : a.tmps.size = n
  defers : a.defers = []
  hM : M w
  has : (∀ w, M w → Has mp w) ∨ ∀ i, i < ops.size → Lst listed i
  stab : ∀ w w', M w → Same w w' → M w'
  chk : ∀ ρ ∈ T.paths, Chk ops (done ++ ρ) []
  ok : T.ok ops = true
  dr : DrT P ops mp K T fm M
  f1 : ∀ i o t v, i ∈ done → ops[i]? = some o → o.dst = some t → Lst listed i → fm.get t = some v → a.tmps[t]? = some v
  f2 : ∀ t v, fm0.get t = some v → (∀ i o, Lst listed i → ops[i]? = some o → o.dst ≠ some t) → a.tmps[t]? = some v
  f3 : ∀ t, (∀ i o, i ∈ done → ops[i]? = some o → o.dst ≠ some t) → fm.get t = fm0.get t
  l1 : ∀ i, Lst listed i → i ∈ done
  pend : ∀ i, i ∈ done → ¬ Lst listed i → Pend P ops [] mp fm0 fm done i

theorem InvT.absorb {done : List Nat} {i : Nat} {T : OT} {fm : FM} {M : World → Prop} {listed : Array Bool} {a : Act} {w : World} (h : InvT P ops mp K n fm0 done (.q i T) fm M listed a w) :
    ∃ fm', InvT P ops mp K n fm0 (done ++ [i]) T fm' M listed a w := by
  obtain ⟨o, ho, v, hq, hdr⟩ := h.dr
  have C := h.chk (i :: T.path) (List.mem_map_of_mem T.path_mem)
  have hnd : (done ++ i :: T.path).Nodup := C.nd
  have hin : ¬ Lst listed i := fun hl => (List.nodup_append.1 hnd).2.2 i (h.l1 i hl) i (by simp) rfl
  refine ⟨fm.put o.dst v, ⟨h.lsize, h.closed, h.tsize, h.defers, h.hM, h.has, h.stab, fun ρ hρ => ?_, h.ok, hdr, ?_, h.f2, ?_, fun k hk => by simp [h.l1 k hk], ?_⟩⟩
  · have := h.chk (i :: ρ) (List.mem_map_of_mem hρ)
    simpa using this
  · intro k ok t u hk hok hd hl hu
    rcases List.mem_append.1 hk with hk | hk
    · rw [get_put fun he => ?_] at hu
      · exact h.f1 k ok t u hk hok hd hl hu
      · have := C.uniq i k o ok t ho hok he hd
        subst this
        exact hin hl
    · simp at hk; subst hk; exact absurd hl hin
  · intro t ht
    rw [get_put fun he => ht i o (by simp) ho he]
    exact h.f3 t fun k ok hk hok => ht k ok (by simp [hk]) hok
  · intro k hk hl
    rcases List.mem_append.1 hk with hk | hk
    · exact (h.pend k hk hl).grow C rfl ho hk
    · simp at hk
      subst hk
      refine ⟨by simp, o, v, fm, ho, hq, fun t ht => by rw [ht]; exact get_put_self, ?_⟩
      exact pend_looks C rfl ho h.f3 fun t ht => get_put fun he => ht t he rfl

theorem InvT.settle {M : World → Prop} {listed : Array Bool} {a : Act} {w : World} : ∀ {T : OT} {done : List Nat} {fm : FM}, InvT P ops mp K n fm0 done T fm M listed a w →
    ∃ done' T' fm', InvT P ops mp K n fm0 done' T' fm' M listed a w ∧ (T' = .nil ∨ (∃ m t, T' = .m m t) ∨ ∃ i j s t, T' = .m2 i j s t) := by
  intro T
  induction T with
  | nil => intro done fm h; exact ⟨done, _, fm, h, .inl rfl⟩
  | q i t ih =>
    intro done fm h
    obtain ⟨fm', h'⟩ := h.absorb
    exact ih h'
  | m i t => intro done fm h; exact ⟨done, _, fm, h, .inr (.inl ⟨i, t, rfl⟩)⟩
  | m2 i j s t => intro done fm h; exact ⟨done, _, fm, h, .inr (.inr ⟨i, j, s, t, rfl⟩)⟩

theorem looks_nowT {done : List Nat} {T : OT} {fm fi : FM} {M : World → Prop} {listed : Array Bool} {a : Act} {w : World} (h : InvT P ops mp K n fm0 done T fm M listed a w) {i : Nat} {o : Oper} (hi : ¬ Lst listed i)
    (hw : Waits ops (Lst listed) i)
    (hl : ∀ t ∈ o.looksAt ops, (∃ j oj, j ∈ done ++ [i] ∧ ops[j]? = some oj ∧ oj.dst = some t ∧ ((dmasks ops.toList []).getD i 0).testBit j = true ∧ fi.get t = fm.get t) ∨
      (fi.get t = fm0.get t ∧ ∀ j oj, ops[j]? = some oj → oj.dst = some t → j = i ∨ ((dmasks ops.toList []).getD j 0).testBit i = true)) :
    ∀ t ∈ o.looksAt ops, ∀ v, fi.get t = some v → a.tmps[t]? = some v := by
  intro t ht v hv
  have spec := dmasks_spec ops (Lst listed) h.closed ops.toList [] (by simp) (by intro i j hb; simp at hb)
  rcases hl t ht with ⟨j, oj, hj, hoj, hd, hdep, he⟩ | ⟨he, hno⟩
  · have hlj := spec i j hdep hw
    exact h.f1 j oj t v (h.l1 j hlj) hoj hd hlj (he ▸ hv)
  · refine h.f2 t v (he ▸ hv) fun j oj hlj hoj hd => ?_
    rcases hno j oj hoj hd with rfl | hdep
    · exact hi hlj
    · exact hi (spec j i hdep fun o' ho' e he' hb => h.closed j o' ho' hlj e he' hb)

theorem draw_tree (sel : Region.noSelect ops = true) {Q : Exit → Act → World → Prop} (hK : ∀ fm M, K fm M → ∀ a w, Agree n fm a → M w → Q .normal a w) (hn : ∀ (i : Nat) (o : Oper) (d : Nat), ops[i]? = some o → o.dst = some d → d < n) :
    ∀ (fuel : Nat) (listed : Array Bool) (a : Act) (w : World) (done : List Nat) (T : OT) (fm : FM) (M : World → Prop), left ops listed ≤ fuel → InvT P ops mp K n fm0 done T fm M listed a w → wpAny P .any ops Q fuel listed a w := by
  have ends : ∀ (listed : Array Bool) (a : Act) (w : World) (done : List Nat) (T : OT) (fm : FM) (M : World → Prop), (∀ i, i < ops.size → Lst listed i) → InvT P ops mp K n fm0 done T fm M listed a w → Q .normal a w := by
    intro listed a w done T fm M hall h
    obtain ⟨done, T, fm, h, hT⟩ := h.settle
    have C := h.chk T.path T.path_mem
    have hno : ∀ m r, T.path = m :: r → False := fun m r hr => by
      have hm : m ∈ done ++ T.path := by rw [hr]; simp
      have hnd : (done ++ m :: r).Nodup := by rw [← hr]; exact C.nd
      exact (List.nodup_append.1 hnd).2.2 m (h.l1 m (hall m (C.lt m hm))) m (by simp) rfl
    have hr : T = .nil := by
      rcases hT with h1 | ⟨m, t, rfl⟩ | ⟨i, j, s, t, rfl⟩
      · exact h1
      · exact (hno _ _ rfl).elim
      · exact (hno _ _ rfl).elim
    subst hr
    refine hK fm M h.dr a w ⟨h.tsize, h.defers, fun t v ht => ?_⟩ h.hM
    by_cases hw : ∃ i o, i ∈ done ∧ ops[i]? = some o ∧ o.dst = some t
    · obtain ⟨i, o, hi, ho, hd⟩ := hw
      exact h.f1 i o t v hi ho hd (hall i (Array.getElem?_eq_some_iff.1 ho).1) ht
    · have h3 := h.f3 t fun i o hi ho hd => hw ⟨i, o, hi, ho, hd⟩
      exact h.f2 t v (h3 ▸ ht) fun i o hl ho hd => hw ⟨i, o, h.l1 i hl, ho, hd⟩
  have zero : ∀ listed : Array Bool, left ops listed = 0 → ∀ i, i < ops.size → Lst listed i := by
    intro listed h i hi
    have := List.countP_eq_zero.1 h i (List.mem_range.2 hi)
    simpa [Lst] using this
  intro fuel
  induction fuel with
  | zero =>
    intro listed a w done T fm M hf h
    have hall := zero listed (by omega)
    refine ⟨?_, ends listed a w done T fm M hall h⟩
    rw [List.eq_nil_iff_forall_not_mem]
    intro i hi
    obtain ⟨h0, o, ho, _⟩ := mem_ready.1 hi
    have hlt := (Array.getElem?_eq_some_iff.1 ho).1
    have h1 := hall i hlt
    have hsz := h.lsize
    simp [Lst, hsz, hlt] at h0 h1
    rw [h1] at h0; cases h0
  | succ fuel ih =>
    intro listed a w done T fm M hf h
    refine ⟨fun hr => ends listed a w done T fm M (all_listed (h.chk T.path T.path_mem) h.lsize hr) h, fun i hi => ?_⟩
    obtain ⟨done, T, fm, h, hT⟩ := h.settle
    have C := h.chk T.path T.path_mem
    obtain ⟨h0, o, ho, hdeps⟩ := mem_ready.1 hi
    have hlt := (Array.getElem?_eq_some_iff.1 ho).1
    have hil : ¬ Lst listed i := by
      intro hl
      have hsz := h.lsize
      simp [Lst, hsz, hlt] at h0 hl
      rw [h0] at hl; cases hl
    have hwaits : Waits ops (Lst listed) i := fun o' ho' e he hb => by
      rw [ho] at ho'; cases ho'
      exact hdeps e he hb
    have hclosed' : Closed ops (Lst (listed.setIfInBounds i true)) := by
      intro j oj hoj hlj e he hb
      rw [lst_set (by rw [h.lsize]; exact hlt)] at hlj ⊢
      rcases hlj with rfl | hlj
      · rw [ho] at hoj; cases hoj
        exact .inr (hdeps e he hb)
      · exact .inr (h.closed j oj hoj hlj e he hb)
    have hfuel : left ops (listed.setIfInBounds i true) ≤ fuel := by
      have := left_set h.lsize hlt hil
      omega
    have hsel := Region.noSelect_spec sel i o
    have hlsz : (listed.setIfInBounds i true).size = ops.size := by simp [h.lsize]
    have hset := fun k => lst_set (listed := listed) (i := i) (by rw [h.lsize]; exact hlt) k
    have tput : ∀ v, (a.put o.dst v).tmps.size = n := by
      intro v
      cases hd : o.dst <;> simp [Act.put, h.tsize]
    have dput : ∀ v, (a.put o.dst v).defers = [] := by
      intro v
      cases hd : o.dst <;> simp [Act.put, h.defers]
    have tget : ∀ (v : Value) (t : Nat), o.dst ≠ some t → (a.put o.dst v).tmps[t]? = a.tmps[t]? := by
      intro v t ht
      cases hd : o.dst with
      | none => rfl
      | some s =>
        have : s ≠ t := fun e => ht (by rw [hd, e])
        simp [Act.put, Array.getElem?_setIfInBounds_ne this]
    have tself : ∀ (v : Value) (t : Nat), o.dst = some t → (a.put o.dst v).tmps[t]? = some v := by
      intro v t ht
      have hlt' : t < a.tmps.size := by rw [h.tsize]; exact hn i o t ho ht
      simp [ht, Act.put, Array.getElem?_setIfInBounds_self_of_lt hlt']
    by_cases hdone : i ∈ done
    · -- it is settled
      obtain ⟨hms, o', v, fi, ho', hq, hdst, hl⟩ := h.pend i hdone hil
      rw [ho] at ho'; cases ho'
      have hl' : ∀ t ∈ o.looksAt ops, (∃ j oj, j ∈ done ++ [i] ∧ ops[j]? = some oj ∧ oj.dst = some t ∧ ((dmasks ops.toList []).getD i 0).testBit j = true ∧ fi.get t = fm.get t) ∨
          (fi.get t = fm0.get t ∧ ∀ j oj, ops[j]? = some oj → oj.dst = some t → j = i ∨ ((dmasks ops.toList []).getD j 0).testBit i = true) := fun t ht => by
        rcases hl t ht with ⟨j, oj, hj, r⟩ | r
        · exact .inl ⟨j, oj, by simp [hj], r⟩
        · exact .inr r
      refine wpOp_quiet ho (fun cs b => hsel cs b ho) (looks_nowT h hil hwaits hl') hq (h.has.elim (fun h1 => h1 w h.hM) fun h1 => absurd (h1 i hlt) hil) fun w' hsame => ?_
      refine ih _ _ _ done T fm M hfuel ⟨hlsz, hclosed', tput v, dput v, h.stab w w' h.hM hsame, h.has.imp id fun h1 k hk => (hset k).2 (.inr (h1 k hk)), h.stab, h.chk, h.ok, h.dr, ?_, ?_, h.f3, ?_, ?_⟩
      · intro k ok t u hk hok hd hlk hu
        by_cases hdt : o.dst = some t
        · have := C.uniq k i ok o t hok ho hd hdt
          subst this
          rw [tself v t hdt]
          rw [hdst t hdt] at hu
          exact hu
        · rw [tget v t hdt]
          rcases (hset k).1 hlk with rfl | hlk
          · rw [ho] at hok; cases hok; exact absurd hd hdt
          · exact h.f1 k ok t u hk hok hd hlk hu
      · intro t u hu hno
        have hdt : o.dst ≠ some t := hno i o ((hset i).2 (.inl rfl)) ho
        rw [tget v t hdt]
        exact h.f2 t u hu fun k ok hlk hok => hno k ok ((hset k).2 (.inr hlk)) hok
      · intro k hk
        rcases (hset k).1 hk with rfl | hk
        · exact hdone
        · exact h.l1 k hk
      · intro k hk hlk
        exact h.pend k hk fun hl => hlk ((hset k).2 (.inr hl))
    · -- it is the next that turns memory
      have step : ∀ t : OT, MainG P ops mp i (DrT P ops mp K t) fm M → (∀ ρ ∈ t.paths, Chk ops (done ++ i :: ρ) []) → t.ok ops = true → wpOp P ops Q i (fun a' w' => wpAny P .any ops Q fuel (listed.setIfInBounds i true) a' w') a w := by
        intro t hmain hchk hok
        obtain ⟨o', ho', hg, ι, V, M', hst, hhas, hmain, hdr⟩ := hmain
        rw [ho] at ho'; cases ho'
        have C := hchk t.path t.path_mem
        have hlook := looks_nowT h hil hwaits (fi := fm) (o := o) (pend_looks C rfl ho h.f3 fun t _ => rfl)
        obtain ⟨ρ, hρ, he⟩ := exec_seen (fun cs b => hsel cs b ho) hlook
        have hout := hmain ρ hρ w h.hM
        rw [← he] at hout
        have hallnow : lastChk ops i = true → ∀ k, k < ops.size → Lst (listed.setIfInBounds i true) k := fun hl k hk => by
          have h1 := List.all_eq_true.1 hl k (List.mem_range.2 hk)
          have spec := dmasks_spec ops (Lst listed) h.closed ops.toList [] (by simp) (by intro i j hb; simp at hb)
          refine (hset k).2 ?_
          rcases (Bool.or_eq_true _ _).mp h1 with h2 | h2
          · exact .inl (by simpa using h2)
          · exact .inr (spec i k h2 hwaits)
        unfold wpOp
        simp only [ho]
        rw [if_pos (by simp [Region.wanted, hg])]
        refine .inl (wp_of_out hout fun u w' ⟨x, hu, hM'⟩ => ?_)
        subst hu
        refine ih _ _ _ (done ++ [i]) t (fm.put o.dst (V x)) (M' x) hfuel ⟨hlsz, hclosed', tput _, dput _, hM', hhas.imp (fun h1 => h1 x) hallnow, hst x, fun ρ hρ => (by have := hchk ρ hρ; simpa using this), hok, hdr x, ?_, ?_, ?_, ?_, ?_⟩
        · intro k ok t u hk hok hd hlk hu
          by_cases hdt : o.dst = some t
          · have := C.uniq k i ok o t hok ho hd hdt
            subst this
            rw [tself _ t hdt]
            rw [hdt, get_put_self] at hu
            exact hu
          · rw [tget _ t hdt]
            rw [get_put hdt] at hu
            rcases (hset k).1 hlk with rfl | hlk
            · rw [ho] at hok; cases hok; exact absurd hd hdt
            · exact h.f1 k ok t u (h.l1 k hlk) hok hd hlk hu
        · intro t u hu hno
          have hdt : o.dst ≠ some t := hno i o ((hset i).2 (.inl rfl)) ho
          rw [tget _ t hdt]
          exact h.f2 t u hu fun k ok hlk hok => hno k ok ((hset k).2 (.inr hlk)) hok
        · intro t ht
          rw [get_put (ht i o (by simp) ho)]
          exact h.f3 t fun k ok hk hok => ht k ok (by simp [hk]) hok
        · intro k hk
          rcases (hset k).1 hk with rfl | hk
          · simp
          · simp [h.l1 k hk]
        · intro k hk hlk
          rcases List.mem_append.1 hk with hk | hk
          · exact (h.pend k hk fun hl => hlk ((hset k).2 (.inr hl))).grow C rfl ho hk
          · simp at hk
            exact absurd ((hset k).2 (.inl hk)) hlk
      have hiπ : i ∈ done ++ T.path := C.all i hlt
      have hir : i ∈ T.path := (List.mem_append.1 hiπ).resolve_left hdone
      have spec := dmasks_spec ops (Lst listed) h.closed ops.toList [] (by simp) (by intro i j hb; simp at hb)
      rcases hT with rfl | ⟨m, t, rfl⟩ | ⟨m, m', s, t, rfl⟩
      · cases hir
      · rcases List.mem_cons.1 hir with h1 | h1
        · subst h1
          refine step t h.dr (fun ρ hρ => h.chk _ (List.mem_map_of_mem hρ)) ?_
          have := h.ok
          simp only [OT.ok, Bool.and_eq_true] at this
          exact this.2
        · exfalso
          have := h.ok
          simp only [OT.ok, Bool.and_eq_true] at this
          have hdep := List.all_eq_true.1 this.1 i h1
          have hlm := spec i m hdep hwaits
          have hnd : (done ++ m :: t.path).Nodup := C.nd
          exact (List.nodup_append.1 hnd).2.2 m (h.l1 m hlm) m (by simp) rfl
      · have hok := h.ok
        simp only [OT.ok, Bool.and_eq_true] at hok
        by_cases h1 : i = m
        · subst h1
          exact step s h.dr.1 (fun ρ hρ => h.chk _ (List.mem_append_left _ (List.mem_map_of_mem hρ))) hok.1.2
        · by_cases h2 : i = m'
          · subst h2
            exact step t h.dr.2 (fun ρ hρ => h.chk _ (List.mem_append_right _ (List.mem_map_of_mem hρ))) hok.2
          · exfalso
            have h3 : i ∈ s.path := (List.mem_cons.1 hir).resolve_left h1
            have hdep := List.all_eq_true.1 hok.1.1 i h3
            simp only [Bool.or_eq_true, beq_iff_eq] at hdep
            rcases hdep with (hdep | hdep) | hdep
            · exact h2 hdep
            · have hlm := spec i m hdep hwaits
              have hnd : (done ++ m :: s.path).Nodup := C.nd
              exact (List.nodup_append.1 hnd).2.2 m (h.l1 m hlm) m (by simp) rfl
            · have hlm := spec i m' hdep hwaits
              have C2 := h.chk (m' :: t.path) (List.mem_append_right _ (List.mem_map_of_mem t.path_mem))
              exact (List.nodup_append.1 C2.nd).2.2 m' (h.l1 m' hlm) m' (by simp) rfl
end

section
variable {Q : Exit → Act → World → Prop} {n : Nat} {w0 : World} {E : Nat → Prop} {fm : FM} {N : Nat} {mm : MM}
theorem sc_tree {id : Nat} {ops : Array Oper} (T : OT) (mp : MM) (hmix : P.follows .mixedOrders = true) (hchk : chkT ops T = true) (hd : dstLt ops n = true) (hmp : List.Subset mp mm)
    (h : DrT P ops mp (DrEnd Q n) T fm (Mem w0 E N mm)) : Sc P (.region id ops true) Q n w0 E fm N mm := fun a w ha hw => by
  refine wp_region_any hmix ?_
  simp only [chkT, Bool.and_eq_true] at hchk
  have C : ∀ ρ ∈ T.paths, Chk ops ρ [] := fun ρ hρ => chk_of (List.all_eq_true.1 hchk.1 ρ hρ)
  have hsame : Same w { w with drawn := w.drawn + 1 } := Same.drawn w
  have hf : ∀ i, ¬ Lst (Array.replicate ops.size false) i := by
    intro i hi
    by_cases h : i < ops.size <;> simp [Lst, h] at hi
  have hdn : ∀ (i : Nat) (o : Oper) (d : Nat), ops[i]? = some o → o.dst = some d → d < n := by
    intro i o d ho hod
    have := Array.all_eq_true_iff_forall_mem.1 hd o (Array.mem_of_getElem? ho)
    simp only [hod] at this
    exact Eq.mp Nat.blt_eq this
  refine draw_tree (fm0 := fm) (mp := mp) (K := DrEnd Q n) (C T.path T.path_mem).sel (fun _ _ h => h) hdn ops.size _ a _ [] T fm (Mem w0 E N mm) ?_ ?_
  · unfold left
    exact Nat.le_trans List.countP_le_length (by simp)
  · exact ⟨by simp, fun j o _ hl => absurd hl (hf j), ha.size, ha.defers, hw.same hsame, .inl fun w hw p hp => hw.has p (hmp hp), fun w w' hw hs => hw.same hs, fun ρ hρ => by simpa using C ρ hρ, hchk.2, h, fun i _ _ _ hi => absurd hi (by simp), fun t v ht _ => ha.get t v ht, fun _ _ => rfl,
      fun i hl => absurd hl (hf i), fun i hi => absurd hi (by simp)⟩

variable {ops : Array Oper} {mp : MM} {K : FM → (World → Prop) → Prop} {r s t : OT} {i j : Nat} {M : World → Prop} {d : Nat} {op : Op} {ty : TypeId} {pos : String} {after : Array Edge} {v : Value}
theorem dt_nil (h : Se Q .normal n w0 E fm N mm) : DrT P ops mp (DrEnd Q n) .nil fm (Mem w0 E N mm) := h
theorem dt_q (ho : ops[i]? = some ⟨some d, op, ty, pos, after, none⟩) (hq : Quiet P fm mp ⟨some d, op, ty, pos, after, none⟩ v) (h : DrT P ops mp K r ((d, v) :: fm) M) : DrT P ops mp K (.q i r) fm M :=
  ⟨_, ho, v, .inl ⟨rfl, hq⟩, h⟩
theorem dt_m {ι : Type} {V : ι → Value} {N' : ι → Nat} {mm' : ι → MM} {F : ι → Prop} (ho : ops[i]? = some ⟨some d, op, ty, pos, after, none⟩) (hq : Main P w0 E fm N mm ⟨some d, op, ty, pos, after, none⟩ V N' mm' F)
    (hmp : ∀ x, F x → List.Subset mp (mm' x)) (h : ∀ x, F x → DrT P ops mp K r ((d, V x) :: fm) (Mem w0 E (N' x) (mm' x))) : MainG P ops mp i (DrT P ops mp K r) fm (Mem w0 E N mm) :=
  ⟨_, ho, rfl, {x // F x}, fun x => V x.1, fun x => Mem w0 E (N' x.1) (mm' x.1), fun x w w' hw hs => hw.same hs, .inl fun x w hw p hp => hw.has p (hmp x.1 x.2 hp),
    fun ρ hρ w hw => (hq ρ hρ w hw).mono fun u w' ⟨x, hF, hu, hm⟩ => ⟨⟨x, hF⟩, hu, hm⟩, fun x => h x.1 x.2⟩
theorem dt_m0l {ι : Type} {V : ι → Value} {N' : ι → Nat} {mm' : ι → MM} {F : ι → Prop} (ho : ops[i]? = some ⟨none, op, ty, pos, after, none⟩) (hq : Main P w0 E fm N mm ⟨none, op, ty, pos, after, none⟩ V N' mm' F)
    (hl : lastChk ops i = true) (h : ∀ x, F x → DrT P ops mp K r fm (Mem w0 E (N' x) (mm' x))) : MainG P ops mp i (DrT P ops mp K r) fm (Mem w0 E N mm) :=
  ⟨_, ho, rfl, {x // F x}, fun x => V x.1, fun x => Mem w0 E (N' x.1) (mm' x.1), fun x w w' hw hs => hw.same hs, .inr hl,
    fun ρ hρ w hw => (hq ρ hρ w hw).mono fun u w' ⟨x, hF, hu, hm⟩ => ⟨⟨x, hF⟩, hu, hm⟩, fun x => h x.1 x.2⟩
theorem dt_one (h : MainG P ops mp i (DrT P ops mp K r) fm M) : DrT P ops mp K (.m i r) fm M := h
theorem dt_two (h1 : MainG P ops mp i (DrT P ops mp K s) fm M) (h2 : MainG P ops mp j (DrT P ops mp K t) fm M) : DrT P ops mp K (.m2 i j s t) fm M := ⟨h1, h2⟩
end
end Go.Sx
/- A piece of code met on its own, what stands behind it told by a state. No condition. -/
namespace Go.Sx
variable {P : Program} {Q : Exit → Act → World → Prop} {n : Nat} {w0 : World} {E : Nat → Prop} {fm : FM} {N : Nat} {mm : MM}

/-- What stands behind the piece: a state out of a family. -/
def Mid (ι : Type) (S : ι → FM) (L : ι → Nat) (M : ι → MM) (F : ι → Prop) (n : Nat) (w0 : World) (E : Nat → Prop) (e : Exit) (a : Act) (w : World) : Prop :=
  e = .normal ∧ ∃ x, F x ∧ Agree n (S x) a ∧ Mem w0 E (L x) (M x) w
theorem sc_mid {c : Code} {ι : Type} (S : ι → FM) (L : ι → Nat) (M : ι → MM) (F : ι → Prop) (h1 : Sc P c (Mid ι S L M F n w0 E) n w0 E fm N mm) (h2 : ∀ x, F x → Se Q .normal n w0 E (S x) (L x) (M x)) : Sc P c Q n w0 E fm N mm := fun a w ha hw b k cs => by
  obtain ⟨e, a', w', ⟨rfl, x, hF, hag, hm⟩, harr⟩ := h1 a w ha hw b k cs
  exact ⟨_, a', w', h2 x hF a' w' hag hm, harr⟩
theorem se_mid {ι : Type} {S : ι → FM} {L : ι → Nat} {M : ι → MM} {F : ι → Prop} (x : ι) (hF : F x) (hS : FM.Sub (S x) fm) (hM : ∀ w, Mem w0 E N mm w → Mem w0 E (L x) (M x) w) : Se (Mid ι S L M F n w0 E) .normal n w0 E fm N mm :=
  fun _ w ha hw => ⟨rfl, x, hF, ha.sub hS, hM w hw⟩
theorem Mem.get' {w : World} (h : Mem w0 E N mm w) {p : Nat × Obj} (hp : p ∈ mm) : w.heap[p.1]? = some p.2 := h.has p hp
end Go.Sx
/- Calls of the reference's small functions, as steps of a walk; words for Find. Conditions: what they read lies in memory. -/
namespace Go.Proofs.YtgkjnkhoopcjgaaDoor
open Go.Sx
set_option maxRecDepth 100000
set_option maxHeartbeats 1000000

theorem row13 {wide big : Bool} {fb ab o ao p m c : Nat} {bs : List UInt8} {l : List Value} {e : TypeId} {fr : Nat × Nat} {w : World} (hf : w.heap[fb]? = some (.cells [.slice (some ⟨ab, o, none⟩) m c, .bool wide, .bool big].toArray 45 (0, 0))) (hb : w.heap[ab]? = some (.cells l.toArray e fr)) (hne : fb ≠ ab) (hat : At l ao bs) (ho : o = ao + p) (hp : p + wd wide 32 56 ≤ bs.length) (hm : wd wide 32 56 ≤ m) (hc : m ≤ c) :
  Calls Tryd.prog 13 #[.pointer (some ⟨fb, 0, none⟩)] w fun en w' => en = .returned (.agg (prgV (prowAt big wide bs p)).toArray) ∧ Eff (fun k => k = fb) w w' := by
 cases wide
 ·
  exact row13_false hf hb hne hat ho hp hm hc
 ·
  exact row13_true hf hb hne hat ho hp hm hc
theorem row19 {wide big : Bool} {fb ab o ao p m c : Nat} {bs : List UInt8} {l : List Value} {e : TypeId} {fr : Nat × Nat} {w : World} (hf : w.heap[fb]? = some (.cells [.slice (some ⟨ab, o, none⟩) m c, .bool wide, .bool big].toArray 45 (0, 0))) (hb : w.heap[ab]? = some (.cells l.toArray e fr)) (hne : fb ≠ ab) (hat : At l ao bs) (ho : o = ao + p) (hp : p + wd wide 40 64 ≤ bs.length) (hm : wd wide 40 64 ≤ m) (hc : m ≤ c) :
  Calls Tryd.prog 19 #[.pointer (some ⟨fb, 0, none⟩)] w fun en w' => en = .returned (.tuple #[.int .u64 (((srowAt big wide bs p).name : Nat) : Int), .agg (secV [] (srowAt big wide bs p)).toArray]) ∧ Eff (fun k => k = fb) w w' := by
 cases wide
 ·
  exact row19_false hf hb hne hat ho hp hm hc
 ·
  exact row19_true hf hb hne hat ho hp hm hc

section
variable {w0 : World} {fm : FM} {N : Nat} {mm ms : MM} {x y z : Operand} {ts : Array TypeId} {d : Option Nat} {ty : TypeId} {pos : String} {after : Array Edge} {gd : Option (Nat × Bool)} {wide big : Bool} {fb ab o ao p m c : Nat} {bs : List UInt8} {l : List Value} {e : TypeId} {fr : Nat × Nat}
theorem row_out {w w' : World} {o' : Obj} (hw : Mem w0 E0 N mm w) (he : Eff (fun k => k = fb) w w') (hp : mm.Perm ((fb, o') :: ms)) (hE : w0.heap.size ≤ fb) : N ≤ w'.heap.size ∧ Mem w0 E0 w'.heap.size ms w' := by
 have hw2 := hw.perm hp.symm
 have hnd := List.nodup_cons.1 hw2.nd
 refine ⟨by rw [← hw.size]; exact he.size, hw2.call he (fun k hk hl => by subst hk; omega) ms [] (fun q hq => by simp [hq]) (fun q hq hk => hnd.1 (by have h9 := List.mem_map_of_mem (f := Prod.fst) hq; rw [hk] at h9; exact h9)) (fun q hq => by cases hq) hnd.2⟩
theorem prog_inv (hx : fm.ev x = some (.pointer (some ⟨fb, 0, none⟩))) (hp : mm.Perm ((fb, .cells [.slice (some ⟨ab, o, none⟩) m c, .bool wide, .bool big].toArray 45 (0, 0)) :: ms)) (hb : (ab, .cells l.toArray e fr) ∈ ms) (hE : w0.heap.size ≤ fb)
  (hat : At l ao bs) (ho : o = ao + p) (hq : p + wd wide 32 56 ≤ bs.length) (hm : wd wide 32 56 ≤ m) (hc : m ≤ c) :
  Main Tryd.prog w0 E0 fm N mm ⟨d, .call { callee := .value (.func 13), args := #[x], argTypes := ts }, ty, pos, after, gd⟩ (fun _ : Nat => .agg (prgV (prowAt big wide bs p)).toArray) (fun n => n) (fun _ => ms) (fun n => N ≤ n) := by
 refine m_call (args1 hx) Tryd.call13 fun w hw => ?_
 have hw2 := hw.perm hp.symm
 have hne : fb ≠ ab := fun he => (List.nodup_cons.1 hw2.nd).1 (by have h9 := List.mem_map_of_mem (f := Prod.fst) hb; rw [he]; exact h9)
 refine (row13 (hw2.get (i := 0) rfl) (hw2.has _ (List.mem_cons_of_mem _ hb)) hne hat ho hq hm hc).mono fun en w' ⟨h1, h2⟩ => ?_
 have := row_out hw h2 hp hE
 exact ⟨w'.heap.size, this.1, h1, this.2⟩
theorem part_inv (hx : fm.ev x = some (.pointer (some ⟨fb, 0, none⟩))) (hp : mm.Perm ((fb, .cells [.slice (some ⟨ab, o, none⟩) m c, .bool wide, .bool big].toArray 45 (0, 0)) :: ms)) (hb : (ab, .cells l.toArray e fr) ∈ ms) (hE : w0.heap.size ≤ fb)
  (hat : At l ao bs) (ho : o = ao + p) (hq : p + wd wide 40 64 ≤ bs.length) (hm : wd wide 40 64 ≤ m) (hc : m ≤ c) :
  Main Tryd.prog w0 E0 fm N mm ⟨d, .call { callee := .value (.func 19), args := #[x], argTypes := ts }, ty, pos, after, gd⟩ (fun _ : Nat => .tuple #[.int .u64 (((srowAt big wide bs p).name : Nat) : Int), .agg (secV [] (srowAt big wide bs p)).toArray]) (fun n => n) (fun _ => ms) (fun n => N ≤ n) := by
 refine m_call (args1 hx) Tryd.call19 fun w hw => ?_
 have hw2 := hw.perm hp.symm
 have hne : fb ≠ ab := fun he => (List.nodup_cons.1 hw2.nd).1 (by have h9 := List.mem_map_of_mem (f := Prod.fst) hb; rw [he]; exact h9)
 refine (row19 (hw2.get (i := 0) rfl) (hw2.has _ (List.mem_cons_of_mem _ hb)) hne hat ho hq hm hc).mono fun en w' ⟨h1, h2⟩ => ?_
 have := row_out hw h2 hp hE
 exact ⟨w'.heap.size, this.1, h1, this.2⟩

/-- A call of cut: what it gives. -/
structure CutX where
 v : Value
 b : Bool
theorem cut_inv {E : Nat → Prop} {a n : Nat} (hm : m ≤ c) (hc : c ≤ 9223372036854775807) (ha : a < 18446744073709551616) (hn : n < 18446744073709551616)
  (hx : fm.ev x = some (.slice (some ⟨ab, ao, none⟩) m c)) (hy : fm.ev y = some (.int .u64 (a : Int))) (hz : fm.ev z = some (.int .u64 (n : Int))) :
  Main Tryd.prog w0 E fm N mm ⟨d, .call { callee := .value (.func 12), args := #[x, y, z], argTypes := ts }, ty, pos, after, gd⟩ (fun q : CutX => .tuple #[q.v, .bool q.b]) (fun _ => N) (fun _ => mm)
   (fun q => (n = 0 ∧ q.v = .slice none 0 0 ∧ q.b = true) ∨ (n ≠ 0 ∧ ¬ a + n ≤ m ∧ q.v = .slice none 0 0 ∧ q.b = false) ∨ (n ≠ 0 ∧ a + n ≤ m ∧ q.v = .slice (some ⟨ab, ao + a, none⟩) n (c - a) ∧ q.b = true)) := by
 refine m_call (args3 hx hy hz) Tryd.call12 fun w hw => (cut12 hm hc ha hn).mono fun en w' ⟨h, hs⟩ => ?_
 rcases h with ⟨h1, h2⟩ | ⟨h1, h3, h2⟩ | ⟨h1, h3, h2⟩
 ·
  exact ⟨⟨_, true⟩, .inl ⟨h1, rfl, rfl⟩, h2, hw.same hs⟩
 ·
  exact ⟨⟨_, false⟩, .inr (.inl ⟨h1, h3, rfl, rfl⟩), h2, hw.same hs⟩
 ·
  exact ⟨⟨_, true⟩, .inr (.inr ⟨h1, h3, rfl, rfl⟩), h2, hw.same hs⟩
end

/-- The flag of a compressed section, over 64 bits and over 32. -/
theorem comp64 {fl : Nat} (h : fl < 4294967296) : IntKind.i64.wrap ((BitVec.ofInt IntKind.i64.bits (fl : Int) &&& BitVec.ofInt IntKind.i64.bits 2048).toNat : Int) = Comp fl := by
 have h1 : (BitVec.ofInt IntKind.i64.bits (fl : Int) &&& BitVec.ofInt IntKind.i64.bits 2048).toNat = fl &&& 2048 := by
  have e1 : BitVec.ofInt IntKind.i64.bits (fl : Int) = BitVec.ofNat 64 fl := BitVec.ofInt_natCast ..
  have e2 : BitVec.ofInt IntKind.i64.bits 2048 = BitVec.ofNat 64 2048 := rfl
  rw [e1, e2]
  show (BitVec.ofNat 64 fl &&& BitVec.ofNat 64 2048).toNat = _
  rw [BitVec.toNat_and, BitVec.toNat_ofNat, BitVec.toNat_ofNat, Nat.mod_eq_of_lt (by omega), Nat.mod_eq_of_lt (by omega)]
 have h2 : (BitVec.ofInt IntKind.u32.bits (fl : Int) &&& BitVec.ofInt IntKind.u32.bits 2048).toNat = fl &&& 2048 := by
  have e1 : BitVec.ofInt IntKind.u32.bits (fl : Int) = BitVec.ofNat 32 fl := BitVec.ofInt_natCast ..
  have e2 : BitVec.ofInt IntKind.u32.bits 2048 = BitVec.ofNat 32 2048 := rfl
  rw [e1, e2]
  show (BitVec.ofNat 32 fl &&& BitVec.ofNat 32 2048).toNat = _
  rw [BitVec.toNat_and, BitVec.toNat_ofNat, BitVec.toNat_ofNat, Nat.mod_eq_of_lt (by omega), Nat.mod_eq_of_lt (by omega)]
 have h3 : fl &&& 2048 ≤ 2048 := Nat.and_le_right
 unfold Comp
 rw [h1, h2, w_i64 (by omega) (by omega), w_u32 (by omega) (by omega)]

/-- How Find ends. -/
def FindR (bs : List UInt8) (am : MM) (m : Nat) (w : World) (en : Ending) (w' : World) : Prop :=
 (∃ xs : List Value, ∃ is : Bool, en = .returned (.tuple #[.agg xs.toArray, .bool is, .bool false]) ∧ xs.length = 12 ∧ xs.all (·.oneCell') = true ∧ Eff E0 w w') ∨ (Plain bs ∧ ¬ Good bs ∧ ∃ xs : List Value, en = .returned (.tuple #[.agg xs.toArray, .bool false, .bool true]) ∧ xs.length = 12 ∧ xs.all (·.oneCell') = true ∧ Eff E0 w w') ∨
  (Plain bs ∧ Good bs ∧ Fits bs ∧ ∃ v1 v2 v3 v4 nn, en = .returned (.tuple #[.agg (hdrL bs ++ [v1, v2, v3, v4]).toArray, .bool true, .bool true]) ∧
   (∃ R, RowOk 0 39 11 (secsL bs (nameOf bs) (hd bs).shnum) (hd bs).shnum v1 R ∧ ∀ p ∈ R, p ∈ nn) ∧ (∃ vs R, RowOk 0 22 1 vs (hd bs).shnum v2 R ∧ (∀ p ∈ R, p ∈ nn) ∧ Bss (am ++ nn) vs (partOf bs)) ∧
   (∃ R, RowOk 0 41 8 (prgsL bs (hd bs).phnum) (hd bs).phnum v3 R ∧ ∀ p ∈ R, p ∈ nn) ∧ (∃ vs R, RowOk 0 22 1 vs (hd bs).phnum v4 R ∧ (∀ p ∈ R, p ∈ nn) ∧ Bss (am ++ nn) vs (bodyOf bs)) ∧
   (∀ p ∈ nn, m ≤ p.1) ∧ Eff E0 w w' ∧ Has nn w' ∧ (nn.map Prod.fst).Nodup)

/-- A table whose first unsigned row is met. -/
theorem plain_bad {bs : List UInt8} {i : Nat} (hc : ∀ j, j < i → Comp (srow bs j).flags = 0) (hi : ¬ (srow bs i).Ok) : Plain bs := fun _ _ _ _ k _ hk => by
 by_cases h : k < i
 ·
  exact hc k h
 ·
  exact absurd (hk i (by omega)) hi
theorem plain_all {bs : List UInt8} (hc : ∀ j, j < (hd bs).shnum → Comp (srow bs j).flags = 0) : Plain bs := fun _ _ _ _ k hk _ => hc k hk
end Go.Proofs.YtgkjnkhoopcjgaaDoor
