/- Part 5 of the proof: Wp, Ws4, Sy5, Wt2, Wt3, Wt1, Wt4, Sy6, Sy7, Sy8, Sy9, Sz1, Wx1, Sz2, Wx2, Wx3. By program out of the working texts. Conditions: as each theorem says. -/
import Derived.Test.YtgkjnkhoopcjgaaDoorK4
import Derived.Laws.StructEq
import Derived.Deep.AppendSrc
import Derived.Deep.Upon
import Derived.Lib.AppendZerosOnto
/- File: what it gives of bytes. Conditions: the bytes lie in memory, at most 8192 of them; no compressed section, no zipped name, no program over 2^16 bytes. -/
namespace Go.Proofs.YtgkjnkhoopcjgaaDoor
open Go.Sx
set_option maxRecDepth 100000
set_option maxHeartbeats 4000000

structure OpX where
 v0 : Value
 b : Bool
 nn : MM
 N : Nat
theorem _root_.Go.Sx.Mem.old {am mm : MM} {w w1 : World} {N : Nat} (h : Mem w E0 N mm w1) (ha : Has am w) : Has am w1 := fun p hp => by
 rw [h.eff.block p.1 (ha.below p hp) (fun h => h)]; exact ha p hp
/-- A call of open. -/
theorem op_inv {g gu : Gx} {bs : List UInt8} {v : Value} {am mm : MM} {w0 : World} {fm : FM} {N : Nat} {x : Operand} {ts : Array TypeId} {d : Option Nat} {ty : TypeId} {pos : String} {after : Array Edge} {gd : Option (Nat × Bool)}
  (hlen : bs.length ≤ 8192) (hpl : Plain bs) (hv : ByIn am v bs) (ham : Has am w0) (hne : ∀ p ∈ am, p.1 ≠ 1 ∧ p.1 ≠ 0) (h1 : (1, g.o) ∈ mm) (h0 : (0, gu.o) ∈ mm) (hx : fm.ev x = some v) :
  Main Tryd.prog w0 E0 fm N mm ⟨d, .call { callee := .value (.func 15), args := #[x], argTypes := ts }, ty, pos, after, gd⟩ (fun z : OpX => .tuple #[z.v0, .bool z.b]) (fun z => z.N) (fun z => z.nn ++ mm)
   (fun z => N ≤ z.N ∧ ((¬ Good bs ∧ z.b = false ∧ z.nn = []) ∨ (Good bs ∧ z.b = true ∧ ∃ (q : NFx) (u : Value) (ms : MM), Own bs u ms ∧ z.v0 = .pointer (some ⟨q.fp, 0, none⟩) ∧ z.nn = nfMem bs u q ++ ms ∧ ∀ p ∈ z.nn, N ≤ p.1))) := by
 refine m_call (args1 hx) Tryd.call15 fun w hw => ?_
 have hsz := hw.size
 refine (open15 (g := g) (gu := gu) hlen hpl hv (hw.old ham) (hw.has _ h1) (hw.has _ h0) hne).mono fun en w' h => ?_
 rcases h with ⟨hg, ⟨v2, hen⟩, he⟩ | ⟨hg, q, u, ms, hown, hen, hfr, he, hh, hnd⟩
 ·
  refine ⟨⟨v2, false, [], w'.heap.size⟩, ⟨by rw [← hsz]; exact he.size, .inl ⟨hg, rfl, rfl⟩⟩, hen, ?_⟩
  exact hw.call_new he [] (fun p hp => by cases hp) (fun p hp => by cases hp) List.nodup_nil
 ·
  have hnn : ∀ p ∈ nfMem bs u q ++ ms, N ≤ p.1 := fun p hp => by rw [← hsz]; exact hfr p hp
  refine ⟨⟨_, true, nfMem bs u q ++ ms, w'.heap.size⟩, ⟨by rw [← hsz]; exact he.size, .inr ⟨hg, rfl, q, u, ms, hown, rfl, rfl, hnn⟩⟩, hen, ?_⟩
  exact hw.call_new he _ hh hnn hnd

theorem perm_open {a b c d e f : Nat × Obj} {P S ms : MM} : ((a :: b :: c :: (P ++ S) ++ ms) ++ [d, e, f]).Perm (a :: b :: c :: d :: e :: f :: (P ++ (S ++ ms))) := by
 refine .cons _ (.cons _ (.cons _ ?_))
 rw [← List.append_assoc P S ms]
 exact List.perm_append_comm
theorem permA {R F R1 W : MM} : (R ++ (F ++ (R1 ++ W))).Perm (F ++ (R1 ++ (R ++ W))) :=
 (List.perm_append_comm_assoc R F (R1 ++ W)).trans (.append_left F (List.perm_append_comm_assoc R R1 W))
theorem permB {p : Nat × Obj} {F R1 R2 W : MM} : (p :: (F ++ (R1 ++ (R2 ++ W)))).Perm (R2 ++ (F ++ (R1 ++ (p :: W)))) := by
 refine List.Perm.trans ?_ permA.symm
 rw [← List.append_assoc, ← List.append_assoc, ← List.append_assoc F R1, ← List.append_assoc (F ++ R1)]
 exact List.perm_middle.symm
theorem in_all {p : Nat × Obj} {F A B C D : MM} (h : p ∈ D) : p ∈ F ++ (A ++ (B ++ (C ++ D))) := by simp [h]
theorem sub_sec7 {g gu : Gx} {a b c d e x y : Nat × Obj} {A B C P S ms : MM} (hs : [x, y].Sublist S) (hnd : ((a :: b :: c :: d :: e :: (1, g.o) :: (0, gu.o) :: (A ++ (B ++ (C ++ (P ++ (S ++ ms)))))).map Prod.fst).Nodup) :
  (∀ p ∈ x :: (1, g.o) :: (0, gu.o) :: y :: ms, p ∈ a :: b :: c :: d :: e :: (1, g.o) :: (0, gu.o) :: (A ++ (B ++ (C ++ (P ++ (S ++ ms)))))) ∧ ((x :: (1, g.o) :: (0, gu.o) :: y :: ms).map Prod.fst).Nodup ∧ ((y :: (1, g.o) :: ms).map Prod.fst).Nodup := by
 have h1 : (S ++ ms).Sublist (A ++ (B ++ (C ++ (P ++ (S ++ ms))))) := List.Sublist.trans (List.sublist_append_right P _) (List.Sublist.trans (List.sublist_append_right C _) (List.Sublist.trans (List.sublist_append_right B _) (List.sublist_append_right A _)))
 have hsub : ((1, g.o) :: (0, gu.o) :: ([x, y] ++ ms)).Sublist (a :: b :: c :: d :: e :: (1, g.o) :: (0, gu.o) :: (A ++ (B ++ (C ++ (P ++ (S ++ ms)))))) := .cons _ (.cons _ (.cons _ (.cons _ (.cons _ (.cons_cons _ (.cons_cons _ ((hs.append (List.Sublist.refl ms)).trans h1)))))))
 have hperm : (x :: (1, g.o) :: (0, gu.o) :: y :: ms).Perm ((1, g.o) :: (0, gu.o) :: ([x, y] ++ ms)) := (List.perm_middle (l₁ := [(1, g.o), (0, gu.o)]) (a := x) (l₂ := y :: ms)).symm
 have hn3 := ((hperm.map Prod.fst).nodup_iff).2 ((hsub.map Prod.fst).nodup hnd)
 refine ⟨fun p hp => hsub.subset (hperm.subset hp), hn3, ?_⟩
 have h4 : ((1, g.o) :: y :: ms).Sublist (x :: (1, g.o) :: (0, gu.o) :: y :: ms) := .cons _ (.cons_cons _ (.cons _ (List.Sublist.refl _)))
 exact (((List.Perm.swap (1, g.o) y ms).map Prod.fst).nodup_iff).2 ((h4.map Prod.fst).nodup hn3)

/-- A round of the loop over the sections. -/
structure L1 where
 i : Nat
 N : Nat
 v1 : Value
 R1 : MM
 vs : List Value
 v2 : Value
 R2 : MM
 nn : MM
structure L1F (bs : List UInt8) (m : Nat) (z : L1) : Prop where
 i : z.i ≤ (hd bs).shnum
 r1 : RowOk m 39 11 (secsL bs (nameOf bs) z.i) z.i z.v1 z.R1
 r2 : RowOk m 22 1 z.vs z.i z.v2 z.R2
 b : Bss z.nn z.vs (partOf bs)
 nn : ∀ p ∈ z.nn, m ≤ p.1
structure L2F (bs : List UInt8) (m : Nat) (z : L1) : Prop where
 i : z.i ≤ (hd bs).phnum
 r1 : RowOk m 41 8 (prgsL bs z.i) z.i z.v1 z.R1
 r2 : RowOk m 22 1 z.vs z.i z.v2 z.R2
 b : Bss z.nn z.vs (bodyOf bs)
 nn : ∀ p ∈ z.nn, m ≤ p.1
theorem t39_size : Tryd.t39.size = 11 := by kernel_rfl
theorem t41_size : Tryd.t41.size = 8 := by kernel_rfl
theorem t22_size : Tryd.t22.size = 1 := by kernel_rfl
theorem t39_bytes : Tryd.t39.bytes ≤ 200 := by decide +kernel
theorem t41_bytes : Tryd.t41.bytes ≤ 200 := by decide +kernel
theorem t22_bytes : Tryd.t22.bytes ≤ 200 := by decide +kernel
theorem bytes_fit {n b : Nat} (hn : n ≤ 65536) (hb : b ≤ 200) : (n + 1) * b ≤ 140737488355328 := by
 have : (n + 1) * b ≤ 65537 * 200 := Nat.mul_le_mul (by omega) hb
 omega
theorem part_full {bs : List UInt8} {i : Nat} (h : (srow bs i).size ≤ (secC bs i).length) : (secC bs i).take (srow bs i).size = partOf bs i ∧ (partOf bs i).length = (srow bs i).size := by
 have := secC_le (bs := bs) (i := i)
 rw [List.take_of_length_le this, partOf, if_pos h]
 exact ⟨rfl, by omega⟩
theorem part_err {bs : List UInt8} {i : Nat} (h : (secC bs i).length < (srow bs i).size) : partOf bs i = [] := by rw [partOf, if_neg (by omega)]
theorem At_own {xs : List UInt8} {pad : List Value} : At (xs.map u8v ++ pad) 0 xs := by unfold At; simp
theorem At_lay0 {xs : List UInt8} {l : List Value} : At (lay l 0 xs) 0 xs := by unfold At lay; simp

theorem dok3 {C : List UInt8} {n N : Nat} {z : DRes} (h : DOk C n N z) : (0 < n ∧ n ≤ C.length ∧ ∃ b, N ≤ b ∧ z.v0 = .slice (some ⟨b, 0, none⟩) n n ∧ z.v1 = .nilIface ∧ z.nn = [(b, .cells ((C.take n).map u8v).toArray 5 (0, 0))]) ∨
  (n = 0 ∧ ∃ b o, N ≤ b ∧ z.v0 = .slice (some ⟨b, 0, none⟩) 0 0 ∧ z.v1 = .nilIface ∧ z.nn = [(b, o)]) ∨ (C.length < n ∧ z.v0 = .slice none 0 0 ∧ (∃ t u, z.v1 = .iface t u) ∧ z.nn = []) := by
 rcases h with ⟨h1, b, h2, h3, h4, h5⟩ | h
 ·
  rcases Nat.eq_zero_or_pos n with h0 | h0
  ·
   subst h0; exact .inr (.inl ⟨rfl, b, _, h2, h3, h4, h5⟩)
  ·
   exact .inl ⟨h0, h1, b, h2, h3, h4, h5⟩
 ·
  exact .inr (.inr h)
theorem part_zero {bs : List UInt8} {i : Nat} (h : (srow bs i).size = 0) : partOf bs i = [] := by
 have := secC_le (bs := bs) (i := i)
 unfold partOf
 split
 ·
  exact List.length_eq_zero_iff.1 (by omega)
 ·
  rfl
theorem secC_len {bs : List UInt8} {i : Nat} (h : bs.length ≤ 8192) : (secC bs i).length ≤ 8192 := by
 unfold secC cut; split <;> simp; omega
theorem sec_kind {g : Gx} {bs : List UInt8} {i sb : Nat} {ms : MM} (hcomp : Comp (srow bs i).flags = 0) (hnz : pre (strB (nameOf bs i)) zd = false) (hrc : (srow bs i).type ≠ 8 → RC g 81 (.pointer (some ⟨sb, 0, none⟩)) ms (RD g (cut bs (srow bs i).off (srow bs i).size))) :
  ((srow bs i).type = 8 ∧ secC bs i = []) ∨ ((srow bs i).type ≠ 8 ∧ IntKind.u32.wrap ((BitVec.ofInt IntKind.u32.bits ((srow bs i).flags : Int) &&& BitVec.ofInt IntKind.u32.bits 2048).toNat : Int) = 0 ∧ pre (strB (nameOf bs i)) zd = false ∧ RC g 81 (.pointer (some ⟨sb, 0, none⟩)) ms (RD g (secC bs i))) := by
 by_cases h : (srow bs i).type = 8
 ·
  exact .inl ⟨h, by rw [secC, if_pos h]⟩
 ·
  exact .inr ⟨h, hcomp, hnz, by rw [secC, if_neg h]; exact hrc h⟩
theorem plain_comp {bs : List UInt8} (hpl : Plain bs) (hg : Good bs) {i : Nat} (hi : i < (hd bs).shnum) : Comp (srow bs i).flags = 0 :=
 hpl hg.head hg.pcut hg.ps hg.scut i hi fun j hj => hg.ss j (by omega)
theorem nd_pr {g gu : Gx} {z a b c d e x y : Nat × Obj} {A B C R1 R2 D P S ms : MM} (hnd : ((z :: a :: b :: c :: d :: e :: (1, g.o) :: (0, gu.o) :: (A ++ (B ++ (C ++ (R1 ++ (R2 ++ (D ++ (P ++ (S ++ ms))))))))).map Prod.fst).Nodup) (hs : [x, y].Sublist P) : ((y :: (1, g.o) :: ms).map Prod.fst).Nodup := by
 have h1 : (P ++ (S ++ ms)).Sublist (A ++ (B ++ (C ++ (R1 ++ (R2 ++ (D ++ (P ++ (S ++ ms)))))))) := List.Sublist.trans (List.sublist_append_right D _) (List.Sublist.trans (List.sublist_append_right R2 _) (List.Sublist.trans (List.sublist_append_right R1 _) (List.Sublist.trans (List.sublist_append_right C _) (List.Sublist.trans (List.sublist_append_right B _) (List.sublist_append_right A _)))))
 have h2 : (y :: ms).Sublist (P ++ (S ++ ms)) := (List.Sublist.trans (.cons _ (List.Sublist.refl _)) hs).append (List.sublist_append_right S ms)
 have hsub : ((1, g.o) :: y :: ms).Sublist (z :: a :: b :: c :: d :: e :: (1, g.o) :: (0, gu.o) :: (A ++ (B ++ (C ++ (R1 ++ (R2 ++ (D ++ (P ++ (S ++ ms))))))))) := .cons _ (.cons _ (.cons _ (.cons _ (.cons _ (.cons _ (.cons_cons _ (.cons _ (h2.trans h1))))))))
 exact (((List.Perm.swap (1, g.o) y ms).map Prod.fst).nodup_iff).2 ((hsub.map Prod.fst).nodup hnd)
theorem sub_pr {z a b c d e h i x : Nat × Obj} {A B C R1 R2 D P S ms : MM} (hx : x ∈ R1 ++ (R2 ++ (D ++ (P ++ (S ++ ms))))) : List.Subset (x :: ms) (z :: a :: b :: c :: d :: e :: h :: i :: (A ++ (B ++ (C ++ (R1 ++ (R2 ++ (D ++ (P ++ (S ++ ms))))))))) := fun p hp => by
 rcases List.mem_cons.1 hp with rfl | hp
 ·
  simp only [List.mem_cons, List.mem_append] at hx ⊢; simp [hx]
 ·
  simp [hp]
theorem pr_lt0 {N : Nat} {x : Nat × Obj} {F A B C D ms : MM} (h : ∀ p ∈ F ++ (A ++ (B ++ (C ++ D))), p.1 < N) (hx : x ∈ D) (hm : ∀ p ∈ ms, p ∈ D) : ∀ p ∈ x :: ms, p.1 < N := fun p hp => by
 rcases List.mem_cons.1 hp with rfl | hp
 ·
  exact h _ (in_all hx)
 ·
  exact h _ (in_all (hm p hp))
theorem tells_mk {bs : List UInt8} {m : Nat} {v1 v2 v3 v4 : Value} {R1 R2 R3 R4 nn nn2 : MM} {vs vs2 : List Value} (hr1 : RowOk m 39 11 (secsL bs (nameOf bs) (hd bs).shnum) (hd bs).shnum v1 R1) (hr2 : RowOk m 22 1 vs (hd bs).shnum v2 R2) (hb : Bss nn vs (partOf bs))
  (hr3 : RowOk m 41 8 (prgsL bs (hd bs).phnum) (hd bs).phnum v3 R3) (hr4 : RowOk m 22 1 vs2 (hd bs).phnum v4 R4) (hb2 : Bss nn2 vs2 (bodyOf bs)) : Tells bs m v1 v2 v3 v4 (R3 ++ (R4 ++ (nn2 ++ (R1 ++ (R2 ++ nn))))) :=
 ⟨⟨R1, hr1, fun p hp => by simp [hp]⟩, ⟨vs, R2, hr2, fun p hp => by simp [hp], hb.mono fun p hp => by simp [hp]⟩, ⟨R3, hr3, fun p hp => by simp [hp]⟩, ⟨vs2, R4, hr4, fun p hp => by simp [hp], hb2.mono fun p hp => by simp [hp]⟩⟩
theorem row_fresh {m : Nat} {e : TypeId} {k n : Nat} {xs : List Value} {v : Value} {R : MM} (h : RowOk m e k xs n v R) : ∀ p ∈ R, m ≤ p.1 := fun p hp => by
 rcases h.2 with ⟨_, _, h2⟩ | ⟨b, cap, pad, _, h2, _, _, _, h3⟩
 ·
  rw [h2] at hp; cases hp
 ·
  rw [h2] at hp; rw [List.mem_singleton.1 hp]; exact h3
theorem fresh_mk {m : Nat} {e1 e2 e3 e4 : TypeId} {k1 k2 k3 k4 n1 n2 n3 n4 : Nat} {x1 x2 x3 x4 : List Value} {v1 v2 v3 v4 : Value} {R1 R2 R3 R4 nn nn2 : MM} (h1 : RowOk m e1 k1 x1 n1 v1 R1) (h2 : RowOk m e2 k2 x2 n2 v2 R2) (hn : ∀ p ∈ nn, m ≤ p.1) (h3 : RowOk m e3 k3 x3 n3 v3 R3) (h4 : RowOk m e4 k4 x4 n4 v4 R4) (hn2 : ∀ p ∈ nn2, m ≤ p.1) :
  ∀ p ∈ R3 ++ (R4 ++ (nn2 ++ (R1 ++ (R2 ++ nn)))), m ≤ p.1 := fun p hp => by
 simp only [List.mem_append] at hp
 rcases hp with hp | hp | hp | hp | hp | hp
 ·
  exact row_fresh h3 p hp
 ·
  exact row_fresh h4 p hp
 ·
  exact hn2 p hp
 ·
  exact row_fresh h1 p hp
 ·
  exact row_fresh h2 p hp
 ·
  exact hn p hp
theorem file_sl {F R1 R2 R3 R4 nn nn2 K : MM} : (R3 ++ (R4 ++ (nn2 ++ (R1 ++ (R2 ++ nn))))).Sublist (F ++ (R3 ++ (R4 ++ (nn2 ++ (R1 ++ (R2 ++ (nn ++ K))))))) :=
 List.Sublist.trans ((List.Sublist.refl R3).append ((List.Sublist.refl R4).append ((List.Sublist.refl nn2).append ((List.Sublist.refl R1).append ((List.Sublist.refl R2).append (List.sublist_append_left nn K)))))) (List.sublist_append_right F _)
theorem file_sub {F R1 R2 R3 R4 nn nn2 K : MM} {p : Nat × Obj} (hp : p ∈ R3 ++ (R4 ++ (nn2 ++ (R1 ++ (R2 ++ nn))))) : p ∈ F ++ (R3 ++ (R4 ++ (nn2 ++ (R1 ++ (R2 ++ (nn ++ K)))))) := file_sl.subset hp

theorem file6 {g gu : Gx} {bs : List UInt8} {v : Value} {am : MM} {w : World} (hlen : bs.length ≤ 8192) (hpl : Plain bs) (hfit0 : Good bs → Fits bs) (hv : ByIn am v bs) (ham : Has am w) (hne : ∀ p ∈ am, p.1 ≠ 1 ∧ p.1 ≠ 0) (h1 : w.heap[1]? = some g.o) (h0 : w.heap[0]? = some gu.o) :
  Calls Tryd.prog 6 #[v] w (FileR bs w) := by
 have hsz01 : 1 < w.heap.size := (Array.getElem?_eq_some_iff.1 h1).1
 obtain ⟨hl1, hl2, hl3, hl4, hl5, hl6, hl7, hl8, hl9, hl10, hl11⟩ := hd_lt bs
 have bv4 := bv_lt bs 4
 have bv5 := bv_lt bs 5
 have bv6 := bv_lt bs 6
 have bv7 := bv_lt bs 7
 have bv8 := bv_lt bs 8
 refine enter (E := E0) Tryd.func6 rfl Tryd.ntmps6 (Nat.le_of_ble_eq_true rfl) [(0, _)] (AOk.get («as» := [_]) ⟨rfl, trivial⟩) ((1, g.o) :: (0, gu.o) :: []) (HasL.has ⟨h1, h0, trivial⟩) (by simp) ?_
 refine scR ?_
 refine sq_m (m_alloc (l := [.int .i64 0, .int .i64 0, .int .i64 0, .int .i64 0, .int .i64 0, .int .i64 0, .int .i64 0, .int .u64 0]) Tryd.zeroValue25 rfl) rfl (fun _ _ => ?_)
 iterate 5 refine sqA rfl rfl ?_
 refine sqKR [0, 2] rfl ?_
 refine sqM rfl rfl ?_
 refine sq_m (op_inv (g := g) (gu := gu) hlen hpl hv ham hne (by simp) (by simp) rfl) rfl (fun z hz => ?_)
 refine sqM rfl rfl ?_
 iterate 2 refine sq_q (q_extract rfl rfl) rfl ?_
 iterate 2 refine sqA rfl rfl ?_
 obtain ⟨v0, b, nn0, N2⟩ := z
 dsimp only at hz
 obtain ⟨hN2, ⟨hg, rfl, rfl⟩ | ⟨hg, rfl, q, u, ms, hown, rfl, rfl, hfr⟩⟩ := hz
 ·
  have _tok := trivial
  refine sqK [2, 8, 9] rfl ?_
  refine sc_seq ?_
  refine scR ?_
  refine sqM rfl rfl ?_
  refine sq_q (q_not' rfl) rfl ?_
  refine sqK [2, 8, 30] rfl ?_
  refine sc_cond_t rfl ?_
  refine scR ?_
  refine sq_q (q_build (vs := []) (cs := #[.int .i64 0, .int .i64 0, .int .i64 0, .int .i64 0, .int .i64 0, .int .i64 0, .int .i64 0, .int .u64 0]) trivial (fun _ => by kernel_rfl)) rfl ?_
  refine sq_m0 (m_stores (i := 0) (vs := [.int .i64 0, .int .i64 0, .int .i64 0, .int .i64 0, .int .i64 0, .int .i64 0, .int .i64 0, .int .u64 0]) (l' := [.int .i64 0, .int .i64 0, .int .i64 0, .int .i64 0, .int .i64 0, .int .i64 0, .int .i64 0, .int .u64 0]) rfl rfl Tryd.sizeOf25 rfl rfl rfl (by simp) rfl rfl (by intro h; omega)) (fun _ _ => ?_)
  iterate 5 refine sqA rfl rfl ?_
  refine sqK [2, 3, 4, 5, 6, 7] rfl ?_
  refine sc_ret ?_
  refine se_then_ret ?_
  exact se_end (resc5 Tryd.results6 rfl rfl rfl rfl rfl rfl Tryd.isAgg25 Tryd.sizeOf25 (i := 0) rfl rfl) (fun w' hw => .inl ⟨hg, ⟨_, _, _, _, _, rfl, rfl, rfl⟩, hw.eff⟩)
 refine sq_mem (fun _ h => h.perm perm_open.symm) ?_
 change Sq _ _ _ _ _ _ _ _ N2 _
 have hown2 := rc_own (g := g) hown (by omega)
 have hfit := hfit0 hg
 refine sqK [2, 8, 9] rfl ?_
 refine sc_seq ?_
 refine scR ?_
 refine sqM rfl rfl ?_
 refine sq_q (q_not' rfl) rfl ?_
 refine sqK [2, 8, 30] rfl ?_
 refine sc_cond_f rfl ?_
 refine scS ?_
 refine scK [2, 8] rfl ?_
 refine sc_seq ?_
 refine sc_draw [0, 1, 2, 3, 4, 5, 6, 7, 8, 9, 10, 11, 12, 13, 14, 15, 16, 17, 18, 19, 20, 21, 22, 23, 24, 25, 26, 27, 28, 29, 30, 31, 32, 33, 34, 35, 36, 37, 38, 39, 40, 41, 42, 43, 44, 45, 46, 47, 48, 49] [48, 49] [(q.fp, fileO bs (isBig bs) (hd bs).type (hd bs).machine (hd bs).entry (.slice (some ⟨q.sb, 0, none⟩) (hd bs).shnum q.scap) (.slice (some ⟨q.pb, 0, none⟩) (hd bs).phnum q.pcap))] mixed (by kernel_rfl) (by kernel_rfl) (fun _ h => by simp at h; simp [h]) ?_
 refine drM rfl rfl rfl ?_
 refine dr_q rfl rfl (q_nil rfl) ?_
 refine dr_q rfl rfl (q_fieldj (j := 0) rfl Tryd.runUnderlying72 rfl Tryd.sizeOf66 rfl) ?_
 refine dr_q rfl rfl (q_fieldj (j := 0) rfl Tryd.runUnderlying66 rfl Tryd.sizeOf57 rfl) ?_
 refine dr_q rfl rfl (q_load1 rfl Tryd.isAgg57 (i := 0) rfl rfl) ?_
 refine dr_q rfl rfl (q_conv rfl Tryd.runUnderlying57 Tryd.runUnderlying3 (w_i64 (by omega) (by omega))) ?_
 refine drM rfl rfl rfl ?_
 refine dr_q rfl rfl (q_nil rfl) ?_
 refine dr_q rfl rfl (q_fieldj (j := 0) rfl Tryd.runUnderlying72 rfl Tryd.sizeOf66 rfl) ?_
 refine dr_q rfl rfl (q_fieldj (j := 1) rfl Tryd.runUnderlying66 rfl Tryd.sizeOf58 rfl) ?_
 refine dr_q rfl rfl (q_load1 rfl Tryd.isAgg58 (i := 0) rfl rfl) ?_
 refine dr_q rfl rfl (q_conv rfl Tryd.runUnderlying58 Tryd.runUnderlying3 (w_i64 (by omega) (by omega))) ?_
 refine drM rfl rfl rfl ?_
 refine dr_q rfl rfl (q_nil rfl) ?_
 refine dr_q rfl rfl (q_fieldj (j := 0) rfl Tryd.runUnderlying72 rfl Tryd.sizeOf66 rfl) ?_
 refine dr_q rfl rfl (q_fieldj (j := 2) rfl Tryd.runUnderlying66 rfl Tryd.sizeOf59 rfl) ?_
 refine dr_q rfl rfl (q_load1 rfl Tryd.isAgg59 (i := 0) rfl rfl) ?_
 refine dr_q rfl rfl (q_conv rfl Tryd.runUnderlying59 Tryd.runUnderlying3 (w_i64 (by omega) (by omega))) ?_
 refine drM rfl rfl rfl ?_
 refine dr_q rfl rfl (q_nil rfl) ?_
 refine dr_q rfl rfl (q_fieldj (j := 0) rfl Tryd.runUnderlying72 rfl Tryd.sizeOf66 rfl) ?_
 refine dr_q rfl rfl (q_fieldj (j := 3) rfl Tryd.runUnderlying66 rfl Tryd.sizeOf60 rfl) ?_
 refine dr_q rfl rfl (q_load1 rfl Tryd.isAgg60 (i := 0) rfl rfl) ?_
 refine dr_q rfl rfl (q_conv rfl Tryd.runUnderlying60 Tryd.runUnderlying3 (w_i64 (by omega) (by omega))) ?_
 refine drM rfl rfl rfl ?_
 refine dr_q rfl rfl (q_nil rfl) ?_
 refine dr_q rfl rfl (q_fieldj (j := 0) rfl Tryd.runUnderlying72 rfl Tryd.sizeOf66 rfl) ?_
 refine dr_q rfl rfl (q_fieldj (j := 4) rfl Tryd.runUnderlying66 rfl Tryd.sizeOf5 rfl) ?_
 refine dr_q rfl rfl (q_load1 rfl Tryd.isAgg5 (i := 0) rfl rfl) ?_
 refine dr_q rfl rfl (q_conv rfl Tryd.runUnderlying5 Tryd.runUnderlying3 (w_i64 (by omega) (by omega))) ?_
 refine drM rfl rfl rfl ?_
 refine dr_q rfl rfl (q_nil rfl) ?_
 refine dr_q rfl rfl (q_fieldj (j := 0) rfl Tryd.runUnderlying72 rfl Tryd.sizeOf66 rfl) ?_
 refine dr_q rfl rfl (q_fieldj (j := 6) rfl Tryd.runUnderlying66 rfl Tryd.sizeOf63 rfl) ?_
 refine dr_q rfl rfl (q_load1 rfl Tryd.isAgg63 (i := 0) rfl rfl) ?_
 refine dr_q rfl rfl (q_conv rfl Tryd.runUnderlying63 Tryd.runUnderlying3 (w_i64 (by omega) (by omega))) ?_
 refine drM rfl rfl rfl ?_
 refine dr_q rfl rfl (q_nil rfl) ?_
 refine dr_q rfl rfl (q_fieldj (j := 0) rfl Tryd.runUnderlying72 rfl Tryd.sizeOf66 rfl) ?_
 refine dr_q rfl rfl (q_fieldj (j := 7) rfl Tryd.runUnderlying66 rfl Tryd.sizeOf64 rfl) ?_
 refine dr_q rfl rfl (q_load1 rfl Tryd.isAgg64 (i := 0) rfl rfl) ?_
 refine dr_q rfl rfl (q_conv rfl Tryd.runUnderlying64 Tryd.runUnderlying3 (w_i64 (by omega) (by omega))) ?_
 refine drM rfl rfl rfl ?_
 refine dr_q rfl rfl (q_nil rfl) ?_
 refine dr_q rfl rfl (q_fieldj (j := 0) rfl Tryd.runUnderlying72 rfl Tryd.sizeOf66 rfl) ?_
 refine dr_q rfl rfl (q_fieldj (j := 8) rfl Tryd.runUnderlying66 rfl Tryd.sizeOf23 rfl) ?_
 refine dr_q rfl rfl (q_load1 rfl Tryd.isAgg23 (i := 0) rfl rfl) ?_
 refine dr_q rfl rfl (q_build (vs := [(0, .int .i64 ((bv bs 4 : Nat) : Int)), (1, .int .i64 ((bv bs 5 : Nat) : Int)), (2, .int .i64 ((bv bs 6 : Nat) : Int)), (3, .int .i64 ((bv bs 7 : Nat) : Int)), (4, .int .i64 ((bv bs 8 : Nat) : Int)), (5, .int .i64 ((hd bs).type : Int)), (6, .int .i64 ((hd bs).machine : Int)), (7, .int .u64 ((hd bs).entry : Int))]) (cs := #[.int .i64 ((bv bs 4 : Nat) : Int), .int .i64 ((bv bs 5 : Nat) : Int), .int .i64 ((bv bs 6 : Nat) : Int), .int .i64 ((bv bs 7 : Nat) : Int), .int .i64 ((bv bs 8 : Nat) : Int), .int .i64 ((hd bs).type : Int), .int .i64 ((hd bs).machine : Int), .int .u64 ((hd bs).entry : Int)]) ⟨rfl, rfl, rfl, rfl, rfl, rfl, rfl, rfl, rfl, rfl, rfl, rfl, rfl, rfl, rfl, rfl, trivial⟩ (fun _ => by kernel_rfl)) ?_
 refine dr_m rfl rfl (m_alloc (l := [.int .i64 0, .int .i64 0, .int .i64 0, .int .i64 0, .int .i64 0, .int .i64 0, .int .i64 0, .int .u64 0]) Tryd.zeroValue25 rfl) (fun _ _ p hp => by simp at hp; simp [hp]) (fun _ _ => ?_)
 refine dr_m0 rfl rfl (m_stores (i := 0) (vs := [.int .i64 ((bv bs 4 : Nat) : Int), .int .i64 ((bv bs 5 : Nat) : Int), .int .i64 ((bv bs 6 : Nat) : Int), .int .i64 ((bv bs 7 : Nat) : Int), .int .i64 ((bv bs 8 : Nat) : Int), .int .i64 ((hd bs).type : Int), .int .i64 ((hd bs).machine : Int), .int .u64 ((hd bs).entry : Int)]) (l' := hdrL bs) rfl rfl Tryd.sizeOf25 rfl rfl rfl (by simp) rfl rfl (by intro h; omega)) (fun _ _ p hp => by simp at hp; simp [hp]) (fun _ _ => ?_)
 refine dr_nil ?_
 refine se_seq ?_
 refine scK [2, 8, 10] rfl ?_
 refine scR ?_
 refine sqA rfl rfl ?_
 refine sqZ ?_
 refine scR ?_
 refine sqA rfl rfl ?_
 refine sqZ ?_
 refine sc_seq ?_
 refine scR ?_
 refine sqM rfl rfl ?_
 refine sq_q (q_nil rfl) rfl ?_
 refine sq_q (q_fieldj (j := 9) rfl Tryd.runUnderlying72 rfl Tryd.sizeOf67 rfl) rfl ?_
 refine sq_q (q_load1 rfl Tryd.isAgg67 (i := 1) rfl rfl) rfl ?_
 refine sq_q (q_len rfl Tryd.runUnderlying67) rfl ?_
 refine sqM rfl rfl ?_
 refine sqK [2, 8, 10, 11, 12, 83, 84, 85] rfl ?_
 refine sc_block ?_
 refine sc_loop (ι := L1) (fun z => [(2, .pointer (some ⟨w.heap.size, 0, none⟩)), (8, .pointer (some ⟨q.fp, 0, none⟩)), (10, .pointer (some ⟨N2, 0, none⟩)), (11, z.v1), (12, z.v2), (83, .slice (some ⟨q.sb, 0, none⟩) (hd bs).shnum q.scap), (84, .int .i64 ((hd bs).shnum : Int)), (85, .int .i64 (z.i : Int))]) (fun z => z.N) (fun z => (N2, .cells (hdrL bs).toArray 25 (0, 0)) :: (q.fp, fileO bs (isBig bs) (hd bs).type (hd bs).machine (hd bs).entry (.slice (some ⟨q.sb, 0, none⟩) (hd bs).shnum q.scap) (.slice (some ⟨q.pb, 0, none⟩) (hd bs).phnum q.pcap)) :: (q.pb, .cells (ptrs q.pf (hd bs).phnum ++ q.ppad).toArray 89 (0, 0)) :: (q.sb, .cells (ptrs q.sf (hd bs).shnum ++ q.spad).toArray 73 (0, 0)) :: (w.heap.size, .cells [.int .i64 0, .int .i64 0, .int .i64 0, .int .i64 0, .int .i64 0, .int .i64 0, .int .i64 0, .int .u64 0].toArray 25 (0, 0)) :: (1, g.o) :: (0, gu.o) :: (z.R1 ++ (z.R2 ++ (z.nn ++ (pmem bs u q.pf (hd bs).phnum ++ (smem bs u (nameOf bs) q.sf (hd bs).shnum ++ ms)))))) (L1F bs w.heap.size) (fun z => (hd bs).shnum - z.i) ⟨0, N2 + 1, .slice none 0 0, [], [], .slice none 0 0, [], []⟩ ⟨⟨by simp, ⟨rfl, .inl ⟨rfl, rfl, rfl⟩⟩, ⟨rfl, .inl ⟨rfl, rfl, rfl⟩⟩, fun i v h => by simp at h, fun p hp => by cases hp⟩, ⟨rfl, rfl, rfl, rfl, rfl, rfl, rfl, rfl, trivial⟩, rfl, fun _ h => h⟩ ?_
 rintro ⟨i, N, v1, R1, vs, v2, R2, nn⟩ ⟨hi1, hr1, hr2, hbs, hnn⟩
 dsimp only at hi1 hr1 hr2 hbs hnn
 change Sc _ _ _ _ _ _ [(2, .pointer (some ⟨w.heap.size, 0, none⟩)), (8, .pointer (some ⟨q.fp, 0, none⟩)), (10, .pointer (some ⟨N2, 0, none⟩)), (11, v1), (12, v2), (83, .slice (some ⟨q.sb, 0, none⟩) (hd bs).shnum q.scap), (84, .int .i64 ((hd bs).shnum : Int)), (85, .int .i64 (i : Int))] N ((N2, .cells (hdrL bs).toArray 25 (0, 0)) :: (q.fp, fileO bs (isBig bs) (hd bs).type (hd bs).machine (hd bs).entry (.slice (some ⟨q.sb, 0, none⟩) (hd bs).shnum q.scap) (.slice (some ⟨q.pb, 0, none⟩) (hd bs).phnum q.pcap)) :: (q.pb, .cells (ptrs q.pf (hd bs).phnum ++ q.ppad).toArray 89 (0, 0)) :: (q.sb, .cells (ptrs q.sf (hd bs).shnum ++ q.spad).toArray 73 (0, 0)) :: (w.heap.size, .cells [.int .i64 0, .int .i64 0, .int .i64 0, .int .i64 0, .int .i64 0, .int .i64 0, .int .i64 0, .int .u64 0].toArray 25 (0, 0)) :: (1, g.o) :: (0, gu.o) :: (R1 ++ (R2 ++ (nn ++ (pmem bs u q.pf (hd bs).phnum ++ (smem bs u (nameOf bs) q.sf (hd bs).shnum ++ ms))))))
 refine sc_known fun hnd1 hge1 hlt1 => ?_
 refine scR ?_
 refine sq_split (q_lss rfl rfl) rfl (fun h8_0 => ?_) (fun h8_0 => ?_)
 ·
  have hin : i < (hd bs).shnum := by omega
  obtain ⟨q1, q2, q3, q4, q5, q6, q7, q8, q9, q10⟩ : (srow bs i).Lt := srowAt_lt _ _ _ _
  have hok := hg.ss i hin
  have hsin : ((q.sf i).1, sectO (nameOf bs i) (srow bs i) (q.sf i).2) ∈ (pmem bs u q.pf (hd bs).phnum ++ (smem bs u (nameOf bs) q.sf (hd bs).shnum ++ ms)) := List.mem_append_right _ (List.mem_append_left _ (mem2_get hin).1)
  have hcomp := plain_comp hpl hg hin
  refine sqZ ?_
  refine sc_seq ?_
  refine sc_cond_t rfl ?_
  refine scS ?_
  refine scK [2, 8, 10, 11, 12, 83, 84, 85] rfl ?_
  refine sc_seq ?_
  refine sc_block ?_
  refine scR ?_
  refine sq_q (q_index (j := i) rfl rfl Tryd.runUnderlying67 Tryd.sizeOf73 ⟨by omega, by omega⟩ (by rw [Int.toNat_natCast]; omega)) rfl ?_
  refine sq_q (q_load1 rfl Tryd.isAgg73 (i := 3) rfl (ptrs_get hin _)) rfl ?_
  refine sqA rfl rfl ?_
  refine sqK [2, 8, 10, 11, 12, 14, 83, 84, 85] rfl ?_
  refine sc_seq ?_
  refine sc_draw [0, 1, 2, 3, 4, 5, 6, 7, 8, 9, 10, 11, 12, 13, 14, 15, 16, 17, 18, 19, 20, 21, 22, 23, 24, 25, 26, 27, 28, 29, 30, 31, 32, 33, 34, 35, 36, 37, 38, 39, 40, 41, 42, 43, 44, 45, 46, 47, 48, 49, 50, 51, 52, 53, 54, 55, 56, 57, 58, 59, 60, 61, 62, 63] [61, 62] [((q.sf i).1, sectO (nameOf bs i) (srow bs i) (q.sf i).2)] mixed (by kernel_rfl) (by kernel_rfl) (fun p hp => by rw [List.mem_singleton.1 hp]; exact in_all (F := [(N2, .cells (hdrL bs).toArray 25 (0, 0)), (q.fp, fileO bs (isBig bs) (hd bs).type (hd bs).machine (hd bs).entry (.slice (some ⟨q.sb, 0, none⟩) (hd bs).shnum q.scap) (.slice (some ⟨q.pb, 0, none⟩) (hd bs).phnum q.pcap)), (q.pb, .cells (ptrs q.pf (hd bs).phnum ++ q.ppad).toArray 89 (0, 0)), (q.sb, .cells (ptrs q.sf (hd bs).shnum ++ q.spad).toArray 73 (0, 0)), (w.heap.size, .cells [.int .i64 0, .int .i64 0, .int .i64 0, .int .i64 0, .int .i64 0, .int .i64 0, .int .i64 0, .int .u64 0].toArray 25 (0, 0)), (1, g.o), (0, gu.o)]) hsin) ?_
  iterate 2 refine drM rfl rfl rfl ?_
  refine dr_q rfl rfl (q_nil rfl) ?_
  refine dr_q rfl rfl (q_fieldj (j := 0) rfl Tryd.runUnderlying84 rfl Tryd.sizeOf78 rfl) ?_
  refine dr_q rfl rfl (q_fieldj (j := 0) rfl Tryd.runUnderlying78 rfl Tryd.sizeOf9 rfl) ?_
  refine dr_q rfl rfl (q_load1 rfl Tryd.isAgg9 (i := 0) rfl rfl) ?_
  refine drM rfl rfl rfl ?_
  refine dr_q rfl rfl (q_nil rfl) ?_
  refine dr_q rfl rfl (q_fieldj (j := 0) rfl Tryd.runUnderlying84 rfl Tryd.sizeOf78 rfl) ?_
  refine dr_q rfl rfl (q_fieldj (j := 1) rfl Tryd.runUnderlying78 rfl Tryd.sizeOf75 rfl) ?_
  refine dr_q rfl rfl (q_load1 rfl Tryd.isAgg75 (i := 0) rfl rfl) ?_
  refine dr_q rfl rfl (q_conv rfl Tryd.runUnderlying75 Tryd.runUnderlying3 (w_i64 (by omega) (by omega))) ?_
  refine drM rfl rfl rfl ?_
  refine dr_q rfl rfl (q_nil rfl) ?_
  refine dr_q rfl rfl (q_fieldj (j := 0) rfl Tryd.runUnderlying84 rfl Tryd.sizeOf78 rfl) ?_
  refine dr_q rfl rfl (q_fieldj (j := 2) rfl Tryd.runUnderlying78 rfl Tryd.sizeOf76 rfl) ?_
  refine dr_q rfl rfl (q_load1 rfl Tryd.isAgg76 (i := 0) rfl rfl) ?_
  refine dr_q rfl rfl (q_conv rfl Tryd.runUnderlying76 Tryd.runUnderlying3 (w_i64 (by omega) (by omega))) ?_
  refine drM rfl rfl rfl ?_
  refine dr_q rfl rfl (q_nil rfl) ?_
  refine dr_q rfl rfl (q_fieldj (j := 0) rfl Tryd.runUnderlying84 rfl Tryd.sizeOf78 rfl) ?_
  refine dr_q rfl rfl (q_fieldj (j := 3) rfl Tryd.runUnderlying78 rfl Tryd.sizeOf23 rfl) ?_
  refine dr_q rfl rfl (q_load1 rfl Tryd.isAgg23 (i := 0) rfl rfl) ?_
  refine drM rfl rfl rfl ?_
  refine dr_q rfl rfl (q_nil rfl) ?_
  refine dr_q rfl rfl (q_fieldj (j := 0) rfl Tryd.runUnderlying84 rfl Tryd.sizeOf78 rfl) ?_
  refine dr_q rfl rfl (q_fieldj (j := 4) rfl Tryd.runUnderlying78 rfl Tryd.sizeOf23 rfl) ?_
  refine dr_q rfl rfl (q_load1 rfl Tryd.isAgg23 (i := 0) rfl rfl) ?_
  refine drM rfl rfl rfl ?_
  refine dr_q rfl rfl (q_nil rfl) ?_
  refine dr_q rfl rfl (q_fieldj (j := 0) rfl Tryd.runUnderlying84 rfl Tryd.sizeOf78 rfl) ?_
  refine dr_q rfl rfl (q_fieldj (j := 5) rfl Tryd.runUnderlying78 rfl Tryd.sizeOf23 rfl) ?_
  refine dr_q rfl rfl (q_load1 rfl Tryd.isAgg23 (i := 0) rfl rfl) ?_
  refine drM rfl rfl rfl ?_
  refine dr_q rfl rfl (q_nil rfl) ?_
  refine dr_q rfl rfl (q_fieldj (j := 0) rfl Tryd.runUnderlying84 rfl Tryd.sizeOf78 rfl) ?_
  refine dr_q rfl rfl (q_fieldj (j := 6) rfl Tryd.runUnderlying78 rfl Tryd.sizeOf74 rfl) ?_
  refine dr_q rfl rfl (q_load1 rfl Tryd.isAgg74 (i := 0) rfl rfl) ?_
  refine dr_q rfl rfl (q_conv rfl Tryd.runUnderlying74 Tryd.runUnderlying3 (w_i64 (by omega) (by omega))) ?_
  refine drM rfl rfl rfl ?_
  refine dr_q rfl rfl (q_nil rfl) ?_
  refine dr_q rfl rfl (q_fieldj (j := 0) rfl Tryd.runUnderlying84 rfl Tryd.sizeOf78 rfl) ?_
  refine dr_q rfl rfl (q_fieldj (j := 7) rfl Tryd.runUnderlying78 rfl Tryd.sizeOf74 rfl) ?_
  refine dr_q rfl rfl (q_load1 rfl Tryd.isAgg74 (i := 0) rfl rfl) ?_
  refine dr_q rfl rfl (q_conv rfl Tryd.runUnderlying74 Tryd.runUnderlying3 (w_i64 (by omega) (by omega))) ?_
  refine drM rfl rfl rfl ?_
  refine dr_q rfl rfl (q_nil rfl) ?_
  refine dr_q rfl rfl (q_fieldj (j := 0) rfl Tryd.runUnderlying84 rfl Tryd.sizeOf78 rfl) ?_
  refine dr_q rfl rfl (q_fieldj (j := 8) rfl Tryd.runUnderlying78 rfl Tryd.sizeOf23 rfl) ?_
  refine dr_q rfl rfl (q_load1 rfl Tryd.isAgg23 (i := 0) rfl rfl) ?_
  refine drM rfl rfl rfl ?_
  refine dr_q rfl rfl (q_nil rfl) ?_
  refine dr_q rfl rfl (q_fieldj (j := 0) rfl Tryd.runUnderlying84 rfl Tryd.sizeOf78 rfl) ?_
  refine dr_q rfl rfl (q_fieldj (j := 9) rfl Tryd.runUnderlying78 rfl Tryd.sizeOf23 rfl) ?_
  refine dr_q rfl rfl (q_load1 rfl Tryd.isAgg23 (i := 0) rfl rfl) ?_
  refine drM rfl rfl rfl ?_
  refine dr_q rfl rfl (q_nil rfl) ?_
  refine dr_q rfl rfl (q_fieldj (j := 0) rfl Tryd.runUnderlying84 rfl Tryd.sizeOf78 rfl) ?_
  refine dr_q rfl rfl (q_fieldj (j := 10) rfl Tryd.runUnderlying78 rfl Tryd.sizeOf23 rfl) ?_
  refine dr_q rfl rfl (q_load1 rfl Tryd.isAgg23 (i := 0) rfl rfl) ?_
  refine dr_q rfl rfl (q_build (vs := [(0, .string (strB (nameOf bs i))), (1, .int .i64 (((srow bs i).type : Nat) : Int)), (2, .int .i64 (((srow bs i).flags : Nat) : Int)), (3, .int .u64 (((srow bs i).addr : Nat) : Int)), (4, .int .u64 (((srow bs i).off : Nat) : Int)), (5, .int .u64 (((srow bs i).size : Nat) : Int)), (6, .int .i64 (((srow bs i).link : Nat) : Int)), (7, .int .i64 (((srow bs i).info : Nat) : Int)), (8, .int .u64 (((srow bs i).align : Nat) : Int)), (9, .int .u64 (((srow bs i).ents : Nat) : Int)), (10, .int .u64 (((srow bs i).size : Nat) : Int))]) (cs := #[.string (strB (nameOf bs i)), .int .i64 (((srow bs i).type : Nat) : Int), .int .i64 (((srow bs i).flags : Nat) : Int), .int .u64 (((srow bs i).addr : Nat) : Int), .int .u64 (((srow bs i).off : Nat) : Int), .int .u64 (((srow bs i).size : Nat) : Int), .int .i64 (((srow bs i).link : Nat) : Int), .int .i64 (((srow bs i).info : Nat) : Int), .int .u64 (((srow bs i).align : Nat) : Int), .int .u64 (((srow bs i).ents : Nat) : Int), .int .u64 (((srow bs i).size : Nat) : Int)]) ⟨rfl, rfl, rfl, rfl, rfl, rfl, rfl, rfl, rfl, rfl, rfl, rfl, rfl, rfl, rfl, rfl, rfl, rfl, rfl, rfl, rfl, rfl, trivial⟩ (fun _ => by kernel_rfl)) ?_
  refine dr_m rfl rfl (m_lit (vs := [(0, _)]) ⟨rfl, rfl, trivial⟩ (e := 39) (l := [.string (strB (nameOf bs i)), .int .i64 (((srow bs i).type : Nat) : Int), .int .i64 (((srow bs i).flags : Nat) : Int), .int .u64 (((srow bs i).addr : Nat) : Int), .int .u64 (((srow bs i).off : Nat) : Int), .int .u64 (((srow bs i).size : Nat) : Int), .int .i64 (((srow bs i).link : Nat) : Int), .int .i64 (((srow bs i).info : Nat) : Int), .int .u64 (((srow bs i).align : Nat) : Int), .int .u64 (((srow bs i).ents : Nat) : Int), .int .u64 (((srow bs i).size : Nat) : Int)]) (fun w => by kernel_rfl)) (fun _ _ p hp => List.mem_cons_of_mem _ (by rw [List.mem_singleton.1 hp]; exact in_all (F := [(N2, .cells (hdrL bs).toArray 25 (0, 0)), (q.fp, fileO bs (isBig bs) (hd bs).type (hd bs).machine (hd bs).entry (.slice (some ⟨q.sb, 0, none⟩) (hd bs).shnum q.scap) (.slice (some ⟨q.pb, 0, none⟩) (hd bs).phnum q.pcap)), (q.pb, .cells (ptrs q.pf (hd bs).phnum ++ q.ppad).toArray 89 (0, 0)), (q.sb, .cells (ptrs q.sf (hd bs).shnum ++ q.spad).toArray 73 (0, 0)), (w.heap.size, .cells [.int .i64 0, .int .i64 0, .int .i64 0, .int .i64 0, .int .i64 0, .int .i64 0, .int .i64 0, .int .u64 0].toArray 25 (0, 0)), (1, g.o), (0, gu.o)]) hsin)) (fun _ _ => ?_)
  refine dr_m rfl rfl (m_app_any (i := Tryd.t39) (z := (.agg #[.string ⟨#[]⟩, .int .i64 0, .int .i64 0, .int .u64 0, .int .u64 0, .int .u64 0, .int .i64 0, .int .i64 0, .int .u64 0, .int .u64 0, .int .u64 0])) (k := 11) (R := R1) (rest := ([(N2, .cells (hdrL bs).toArray 25 (0, 0)), (q.fp, fileO bs (isBig bs) (hd bs).type (hd bs).machine (hd bs).entry (.slice (some ⟨q.sb, 0, none⟩) (hd bs).shnum q.scap) (.slice (some ⟨q.pb, 0, none⟩) (hd bs).phnum q.pcap)), (q.pb, .cells (ptrs q.pf (hd bs).phnum ++ q.ppad).toArray 89 (0, 0)), (q.sb, .cells (ptrs q.sf (hd bs).shnum ++ q.spad).toArray 73 (0, 0)), (w.heap.size, .cells [.int .i64 0, .int .i64 0, .int .i64 0, .int .i64 0, .int .i64 0, .int .i64 0, .int .i64 0, .int .u64 0].toArray 25 (0, 0)), (1, g.o), (0, gu.o)] ++ (R2 ++ (nn ++ (pmem bs u q.pf (hd bs).phnum ++ (smem bs u (nameOf bs) q.sf (hd bs).shnum ++ ms)))))) (news := [.string (strB (nameOf bs i)), .int .i64 (((srow bs i).type : Nat) : Int), .int .i64 (((srow bs i).flags : Nat) : Int), .int .u64 (((srow bs i).addr : Nat) : Int), .int .u64 (((srow bs i).off : Nat) : Int), .int .u64 (((srow bs i).size : Nat) : Int), .int .i64 (((srow bs i).link : Nat) : Int), .int .i64 (((srow bs i).info : Nat) : Int), .int .u64 (((srow bs i).align : Nat) : Int), .int .u64 (((srow bs i).ents : Nat) : Int), .int .u64 (((srow bs i).size : Nat) : Int)]) (out := fun R' => (N2, .cells (hdrL bs).toArray 25 (0, 0)) :: (q.fp, fileO bs (isBig bs) (hd bs).type (hd bs).machine (hd bs).entry (.slice (some ⟨q.sb, 0, none⟩) (hd bs).shnum q.scap) (.slice (some ⟨q.pb, 0, none⟩) (hd bs).phnum q.pcap)) :: (q.pb, .cells (ptrs q.pf (hd bs).phnum ++ q.ppad).toArray 89 (0, 0)) :: (q.sb, .cells (ptrs q.sf (hd bs).shnum ++ q.spad).toArray 73 (0, 0)) :: (w.heap.size, .cells [.int .i64 0, .int .i64 0, .int .i64 0, .int .i64 0, .int .i64 0, .int .i64 0, .int .i64 0, .int .u64 0].toArray 25 (0, 0)) :: (1, g.o) :: (0, gu.o) :: (R' ++ (R2 ++ (nn ++ (pmem bs u q.pf (hd bs).phnum ++ (smem bs u (nameOf bs) q.sf (hd bs).shnum ++ ms)))))) hr1 rfl rfl (.cons _ (List.perm_append_comm_assoc [(N2, .cells (hdrL bs).toArray 25 (0, 0)), (q.fp, fileO bs (isBig bs) (hd bs).type (hd bs).machine (hd bs).entry (.slice (some ⟨q.sb, 0, none⟩) (hd bs).shnum q.scap) (.slice (some ⟨q.pb, 0, none⟩) (hd bs).phnum q.pcap)), (q.pb, .cells (ptrs q.pf (hd bs).phnum ++ q.ppad).toArray 89 (0, 0)), (q.sb, .cells (ptrs q.sf (hd bs).shnum ++ q.spad).toArray 73 (0, 0)), (w.heap.size, .cells [.int .i64 0, .int .i64 0, .int .i64 0, .int .i64 0, .int .i64 0, .int .i64 0, .int .i64 0, .int .u64 0].toArray 25 (0, 0)), (1, g.o), (0, gu.o)] R1 (R2 ++ (nn ++ (pmem bs u q.pf (hd bs).phnum ++ (smem bs u (nameOf bs) q.sf (hd bs).shnum ++ ms)))))) (fun R' => (List.perm_append_comm_assoc R' [(N2, .cells (hdrL bs).toArray 25 (0, 0)), (q.fp, fileO bs (isBig bs) (hd bs).type (hd bs).machine (hd bs).entry (.slice (some ⟨q.sb, 0, none⟩) (hd bs).shnum q.scap) (.slice (some ⟨q.pb, 0, none⟩) (hd bs).phnum q.pcap)), (q.pb, .cells (ptrs q.pf (hd bs).phnum ++ q.ppad).toArray 89 (0, 0)), (q.sb, .cells (ptrs q.sf (hd bs).shnum ++ q.spad).toArray 73 (0, 0)), (w.heap.size, .cells [.int .i64 0, .int .i64 0, .int .i64 0, .int .i64 0, .int .i64 0, .int .i64 0, .int .i64 0, .int .u64 0].toArray 25 (0, 0)), (1, g.o), (0, gu.o)] (R2 ++ (nn ++ (pmem bs u q.pf (hd bs).phnum ++ (smem bs u (nameOf bs) q.sf (hd bs).shnum ++ ms)))))) Tryd.underlying26 (by kernel_rfl) (by kernel_rfl) t39_size (by kernel_rfl) rfl rfl (by omega) (bytes_fit (by omega) t39_bytes) (by intro b h1 h2; omega)) (fun _ _ p hp => by rw [List.mem_singleton.1 hp]; exact in_all (F := [(N2, .cells (hdrL bs).toArray 25 (0, 0)), (q.fp, fileO bs (isBig bs) (hd bs).type (hd bs).machine (hd bs).entry (.slice (some ⟨q.sb, 0, none⟩) (hd bs).shnum q.scap) (.slice (some ⟨q.pb, 0, none⟩) (hd bs).phnum q.pcap)), (q.pb, .cells (ptrs q.pf (hd bs).phnum ++ q.ppad).toArray 89 (0, 0)), (q.sb, .cells (ptrs q.sf (hd bs).shnum ++ q.spad).toArray 73 (0, 0)), (w.heap.size, .cells [.int .i64 0, .int .i64 0, .int .i64 0, .int .i64 0, .int .i64 0, .int .i64 0, .int .i64 0, .int .u64 0].toArray 25 (0, 0)), (1, g.o), (0, gu.o)]) hsin) (fun y hy => ?_)
  refine drA rfl rfl rfl ?_
  refine dr_nil ?_
  obtain ⟨v1b, R1b, N3⟩ := y
  dsimp only at hy
  obtain ⟨hy1, hy2⟩ := hy
  change Se _ _ _ _ _ _ N3 ((N2, .cells (hdrL bs).toArray 25 (0, 0)) :: (q.fp, fileO bs (isBig bs) (hd bs).type (hd bs).machine (hd bs).entry (.slice (some ⟨q.sb, 0, none⟩) (hd bs).shnum q.scap) (.slice (some ⟨q.pb, 0, none⟩) (hd bs).phnum q.pcap)) :: (q.pb, .cells (ptrs q.pf (hd bs).phnum ++ q.ppad).toArray 89 (0, 0)) :: (q.sb, .cells (ptrs q.sf (hd bs).shnum ++ q.spad).toArray 73 (0, 0)) :: (w.heap.size, .cells [.int .i64 0, .int .i64 0, .int .i64 0, .int .i64 0, .int .i64 0, .int .i64 0, .int .i64 0, .int .u64 0].toArray 25 (0, 0)) :: (1, g.o) :: (0, gu.o) :: (R1b ++ (R2 ++ (nn ++ (pmem bs u q.pf (hd bs).phnum ++ (smem bs u (nameOf bs) q.sf (hd bs).shnum ++ ms))))))
  refine se_seq ?_
  refine scK [2, 8, 10, 11, 12, 14, 83, 84, 85] rfl ?_
  refine scR ?_
  refine sqM rfl rfl ?_
  refine sq_known fun hnd hge hlt => ?_
  obtain ⟨hsub1, hsub2, hsub3⟩ := sub_sec7 (mem2_sub (f := q.sf) (A := fun i => sectO (nameOf bs i) (srow bs i)) (B := fun i => rdO u (srow bs i).off (srow bs i).size) hin) hnd
  refine sq_m (data_inv (g := g) (gu := gu) (C := secC bs i) (size := (srow bs i).size) (by have := hok.2; omega) (by have := secC_len (bs := bs) (i := i) hlen; omega) (sec_kind hcomp (hfit.nz i hin) (fun _ => rc_piece hown2 hlen (by have := hok.1; omega) hsub3)) hsub1 hsub2 rfl) rfl (fun z hz => ?_)
  refine sqM rfl rfl ?_
  iterate 2 refine sq_q (q_extract rfl rfl) rfl ?_
  iterate 2 refine sqA rfl rfl ?_
  obtain ⟨d0, d1, dn, N4⟩ := z
  obtain ⟨hz, hN4⟩ := hz
  dsimp only at hN4
  rcases dok3 hz with ⟨hs0, hcut, b, hb, h5, h6, h7⟩ | ⟨hs0, b, o5, hb, h5, h6, h7⟩ | ⟨hcut, h5, ⟨t2, u2, h6⟩, h7⟩
  all_goals dsimp only at h5 h6 h7
  all_goals subst h5 h6 h7
  ·
   obtain ⟨hp1, hp2⟩ := part_full hcut
   have h8192 := secC_len (bs := bs) (i := i) hlen
   rw [hp1]
   change Sq _ _ _ _ _ _ _ _ N4 ((b, .cells ((partOf bs i).map u8v).toArray 5 (0, 0)) :: (N2, .cells (hdrL bs).toArray 25 (0, 0)) :: (q.fp, fileO bs (isBig bs) (hd bs).type (hd bs).machine (hd bs).entry (.slice (some ⟨q.sb, 0, none⟩) (hd bs).shnum q.scap) (.slice (some ⟨q.pb, 0, none⟩) (hd bs).phnum q.pcap)) :: (q.pb, .cells (ptrs q.pf (hd bs).phnum ++ q.ppad).toArray 89 (0, 0)) :: (q.sb, .cells (ptrs q.sf (hd bs).shnum ++ q.spad).toArray 73 (0, 0)) :: (w.heap.size, .cells [.int .i64 0, .int .i64 0, .int .i64 0, .int .i64 0, .int .i64 0, .int .i64 0, .int .i64 0, .int .u64 0].toArray 25 (0, 0)) :: (1, g.o) :: (0, gu.o) :: (R1b ++ (R2 ++ (nn ++ (pmem bs u q.pf (hd bs).phnum ++ (smem bs u (nameOf bs) q.sf (hd bs).shnum ++ ms))))))
   refine sqK [2, 8, 10, 11, 12, 15, 16, 83, 84, 85] rfl ?_
   refine sc_seq ?_
   refine scR ?_
   refine sqM rfl rfl ?_
   refine sq_q (q_nil_neq_nil rfl Tryd.runUnderlying86) rfl ?_
   refine sqK [2, 8, 10, 11, 12, 15, 83, 84, 85, 158] rfl ?_
   refine sc_cond_f rfl ?_
   refine scS ?_
   refine scK [2, 8, 10, 11, 12, 15, 83, 84, 85] rfl ?_
   refine sc_region ?_
   iterate 2 refine sqM rfl rfl ?_
   refine sq_m (m_app_nil (j := 0) (i := Tryd.t5) (z := .int .u8 0) (news := (partOf bs i).map u8v) rfl rfl rfl Tryd.underlying22 (by kernel_rfl) (by kernel_rfl) (by kernel_rfl) (by rw [t5_size, Nat.mul_one, List.drop_zero, List.take_of_length_le (by simp; omega)]) (by rw [t5_size]; simp; omega) hs0 (by rw [t5_bytes]; omega) (by omega)) rfl (fun y3 hy3 => ?_)
   have hby : ByIn ((N4, .cells ((partOf bs i).map u8v ++ y3.pad).toArray 5 (0, 0)) :: nn) (.slice (some ⟨N4, 0, none⟩) (srow bs i).size y3.cap) (partOf bs i) := .inr ⟨N4, 0, y3.cap, _, 5, (0, 0), by rw [hp2], by rw [hp2]; exact hy3.1, hy3.2.1, List.mem_cons_self, At_own, by simp, by omega⟩
   have hnsub : List.Subset nn ((N4, .cells ((partOf bs i).map u8v ++ y3.pad).toArray 5 (0, 0)) :: nn) := fun p hp => List.mem_cons_of_mem _ hp
   have hnfr : ∀ p ∈ (N4, Obj.cells ((partOf bs i).map u8v ++ y3.pad).toArray 5 (0, 0)) :: nn, w.heap.size ≤ p.1 := fun p hp => by
    rcases List.mem_cons.1 hp with rfl | hp
    ·
     dsimp only; omega
    ·
     exact hnn p hp
   refine sq_m (m_lit (vs := [(0, _)]) ⟨rfl, rfl, trivial⟩ (e := 22) (l := [.slice (some ⟨N4, 0, none⟩) (srow bs i).size y3.cap]) (fun w => by kernel_rfl)) rfl (fun _ _ => ?_)
   refine sq_mem (fun _ h => h.sublist (.cons_cons _ (.cons_cons _ (.cons _ (List.Sublist.refl _))))) ?_
   refine sq_m (m_app_any (i := Tryd.t22) (z := (.slice none 0 0)) (k := 1) (R := R2) (rest := ([(N2, .cells (hdrL bs).toArray 25 (0, 0)), (q.fp, fileO bs (isBig bs) (hd bs).type (hd bs).machine (hd bs).entry (.slice (some ⟨q.sb, 0, none⟩) (hd bs).shnum q.scap) (.slice (some ⟨q.pb, 0, none⟩) (hd bs).phnum q.pcap)), (q.pb, .cells (ptrs q.pf (hd bs).phnum ++ q.ppad).toArray 89 (0, 0)), (q.sb, .cells (ptrs q.sf (hd bs).shnum ++ q.spad).toArray 73 (0, 0)), (w.heap.size, .cells [.int .i64 0, .int .i64 0, .int .i64 0, .int .i64 0, .int .i64 0, .int .i64 0, .int .i64 0, .int .u64 0].toArray 25 (0, 0)), (1, g.o), (0, gu.o)] ++ (R1b ++ (((N4, .cells ((partOf bs i).map u8v ++ y3.pad).toArray 5 (0, 0)) :: nn) ++ (pmem bs u q.pf (hd bs).phnum ++ (smem bs u (nameOf bs) q.sf (hd bs).shnum ++ ms)))))) (news := [.slice (some ⟨N4, 0, none⟩) (srow bs i).size y3.cap]) (out := fun R' => (N2, .cells (hdrL bs).toArray 25 (0, 0)) :: (q.fp, fileO bs (isBig bs) (hd bs).type (hd bs).machine (hd bs).entry (.slice (some ⟨q.sb, 0, none⟩) (hd bs).shnum q.scap) (.slice (some ⟨q.pb, 0, none⟩) (hd bs).phnum q.pcap)) :: (q.pb, .cells (ptrs q.pf (hd bs).phnum ++ q.ppad).toArray 89 (0, 0)) :: (q.sb, .cells (ptrs q.sf (hd bs).shnum ++ q.spad).toArray 73 (0, 0)) :: (w.heap.size, .cells [.int .i64 0, .int .i64 0, .int .i64 0, .int .i64 0, .int .i64 0, .int .i64 0, .int .i64 0, .int .u64 0].toArray 25 (0, 0)) :: (1, g.o) :: (0, gu.o) :: (R1b ++ (R' ++ (((N4, .cells ((partOf bs i).map u8v ++ y3.pad).toArray 5 (0, 0)) :: nn) ++ (pmem bs u q.pf (hd bs).phnum ++ (smem bs u (nameOf bs) q.sf (hd bs).shnum ++ ms)))))) hr2 rfl rfl (.cons _ (permB (F := [(N2, .cells (hdrL bs).toArray 25 (0, 0)), (q.fp, fileO bs (isBig bs) (hd bs).type (hd bs).machine (hd bs).entry (.slice (some ⟨q.sb, 0, none⟩) (hd bs).shnum q.scap) (.slice (some ⟨q.pb, 0, none⟩) (hd bs).phnum q.pcap)), (q.pb, .cells (ptrs q.pf (hd bs).phnum ++ q.ppad).toArray 89 (0, 0)), (q.sb, .cells (ptrs q.sf (hd bs).shnum ++ q.spad).toArray 73 (0, 0)), (w.heap.size, .cells [.int .i64 0, .int .i64 0, .int .i64 0, .int .i64 0, .int .i64 0, .int .i64 0, .int .i64 0, .int .u64 0].toArray 25 (0, 0)), (1, g.o), (0, gu.o)]) (R1 := R1b) (R2 := R2) (W := nn ++ (pmem bs u q.pf (hd bs).phnum ++ (smem bs u (nameOf bs) q.sf (hd bs).shnum ++ ms))))) (fun R' => permA) Tryd.underlying27 (by kernel_rfl) (by kernel_rfl) t22_size (by kernel_rfl) rfl rfl (by omega) (bytes_fit (by omega) t22_bytes) (by intro b h1 h2; omega)) rfl (fun y5 hy5 => ?_)
   obtain ⟨v2b, R2b, N6⟩ := y5
   dsimp only at hy5
   obtain ⟨hy5, hy6⟩ := hy5
   refine sqA rfl rfl ?_
   refine sq_nil ?_
   refine se_block ?_
   refine se_seq ?_
   refine scK [2, 8, 10, 11, 12, 83, 84, 85] rfl ?_
   refine sc_region ?_
   refine sq_q (q_add rfl rfl (w_i64 (by omega) (by omega))) rfl ?_
   refine sqM rfl rfl ?_
   refine sq_nil ?_
   refine se_loop ⟨i + 1, N6, v1b, R1b, vs ++ [_], v2b, R2b, _⟩ (by dsimp only; omega) ⟨by dsimp only; omega, hy2, hy6, hbs.snoc (by rw [hr2.1, Nat.mul_one]) hnsub hby, hnfr⟩ ⟨rfl, rfl, rfl, rfl, rfl, rfl, rfl, rfl, trivial⟩ (fun _ h => h)
  ·
   have hp1 := part_zero hs0
   change Sq _ _ _ _ _ _ _ _ N4 ((b, o5) :: (N2, .cells (hdrL bs).toArray 25 (0, 0)) :: (q.fp, fileO bs (isBig bs) (hd bs).type (hd bs).machine (hd bs).entry (.slice (some ⟨q.sb, 0, none⟩) (hd bs).shnum q.scap) (.slice (some ⟨q.pb, 0, none⟩) (hd bs).phnum q.pcap)) :: (q.pb, .cells (ptrs q.pf (hd bs).phnum ++ q.ppad).toArray 89 (0, 0)) :: (q.sb, .cells (ptrs q.sf (hd bs).shnum ++ q.spad).toArray 73 (0, 0)) :: (w.heap.size, .cells [.int .i64 0, .int .i64 0, .int .i64 0, .int .i64 0, .int .i64 0, .int .i64 0, .int .i64 0, .int .u64 0].toArray 25 (0, 0)) :: (1, g.o) :: (0, gu.o) :: (R1b ++ (R2 ++ (nn ++ (pmem bs u q.pf (hd bs).phnum ++ (smem bs u (nameOf bs) q.sf (hd bs).shnum ++ ms))))))
   refine sqK [2, 8, 10, 11, 12, 15, 16, 83, 84, 85] rfl ?_
   refine sc_seq ?_
   refine scR ?_
   refine sqM rfl rfl ?_
   refine sq_q (q_nil_neq_nil rfl Tryd.runUnderlying86) rfl ?_
   refine sqK [2, 8, 10, 11, 12, 15, 83, 84, 85, 158] rfl ?_
   refine sc_cond_f rfl ?_
   refine scS ?_
   refine scK [2, 8, 10, 11, 12, 15, 83, 84, 85] rfl ?_
   refine sc_region ?_
   iterate 2 refine sqM rfl rfl ?_
   refine sq_q (q_app0 rfl rfl Tryd.underlying22 (i := Tryd.t5) (by kernel_rfl)) rfl ?_
   have hby : ByIn nn (.slice none 0 0) (partOf bs i) := .inl ⟨hp1, none, 0, rfl⟩
   have hnsub : List.Subset nn nn := fun p hp => hp
   have hnfr := hnn
   refine sq_m (m_lit (vs := [(0, _)]) ⟨rfl, rfl, trivial⟩ (e := 22) (l := [.slice none 0 0]) (fun w => by kernel_rfl)) rfl (fun _ _ => ?_)
   refine sq_mem (fun _ h => h.sublist (.cons_cons _ (.cons _ (List.Sublist.refl _)))) ?_
   refine sq_m (m_app_any (i := Tryd.t22) (z := (.slice none 0 0)) (k := 1) (R := R2) (rest := ([(N2, .cells (hdrL bs).toArray 25 (0, 0)), (q.fp, fileO bs (isBig bs) (hd bs).type (hd bs).machine (hd bs).entry (.slice (some ⟨q.sb, 0, none⟩) (hd bs).shnum q.scap) (.slice (some ⟨q.pb, 0, none⟩) (hd bs).phnum q.pcap)), (q.pb, .cells (ptrs q.pf (hd bs).phnum ++ q.ppad).toArray 89 (0, 0)), (q.sb, .cells (ptrs q.sf (hd bs).shnum ++ q.spad).toArray 73 (0, 0)), (w.heap.size, .cells [.int .i64 0, .int .i64 0, .int .i64 0, .int .i64 0, .int .i64 0, .int .i64 0, .int .i64 0, .int .u64 0].toArray 25 (0, 0)), (1, g.o), (0, gu.o)] ++ (R1b ++ (nn ++ (pmem bs u q.pf (hd bs).phnum ++ (smem bs u (nameOf bs) q.sf (hd bs).shnum ++ ms)))))) (news := [.slice none 0 0]) (out := fun R' => (N2, .cells (hdrL bs).toArray 25 (0, 0)) :: (q.fp, fileO bs (isBig bs) (hd bs).type (hd bs).machine (hd bs).entry (.slice (some ⟨q.sb, 0, none⟩) (hd bs).shnum q.scap) (.slice (some ⟨q.pb, 0, none⟩) (hd bs).phnum q.pcap)) :: (q.pb, .cells (ptrs q.pf (hd bs).phnum ++ q.ppad).toArray 89 (0, 0)) :: (q.sb, .cells (ptrs q.sf (hd bs).shnum ++ q.spad).toArray 73 (0, 0)) :: (w.heap.size, .cells [.int .i64 0, .int .i64 0, .int .i64 0, .int .i64 0, .int .i64 0, .int .i64 0, .int .i64 0, .int .u64 0].toArray 25 (0, 0)) :: (1, g.o) :: (0, gu.o) :: (R1b ++ (R' ++ (nn ++ (pmem bs u q.pf (hd bs).phnum ++ (smem bs u (nameOf bs) q.sf (hd bs).shnum ++ ms)))))) hr2 rfl rfl (.cons _ (permA (R := R2) (F := [(N2, .cells (hdrL bs).toArray 25 (0, 0)), (q.fp, fileO bs (isBig bs) (hd bs).type (hd bs).machine (hd bs).entry (.slice (some ⟨q.sb, 0, none⟩) (hd bs).shnum q.scap) (.slice (some ⟨q.pb, 0, none⟩) (hd bs).phnum q.pcap)), (q.pb, .cells (ptrs q.pf (hd bs).phnum ++ q.ppad).toArray 89 (0, 0)), (q.sb, .cells (ptrs q.sf (hd bs).shnum ++ q.spad).toArray 73 (0, 0)), (w.heap.size, .cells [.int .i64 0, .int .i64 0, .int .i64 0, .int .i64 0, .int .i64 0, .int .i64 0, .int .i64 0, .int .u64 0].toArray 25 (0, 0)), (1, g.o), (0, gu.o)]) (R1 := R1b) (W := nn ++ (pmem bs u q.pf (hd bs).phnum ++ (smem bs u (nameOf bs) q.sf (hd bs).shnum ++ ms)))).symm) (fun R' => permA) Tryd.underlying27 (by kernel_rfl) (by kernel_rfl) t22_size (by kernel_rfl) rfl rfl (by omega) (bytes_fit (by omega) t22_bytes) (by intro b h1 h2; omega)) rfl (fun y5 hy5 => ?_)
   obtain ⟨v2b, R2b, N6⟩ := y5
   dsimp only at hy5
   obtain ⟨hy5, hy6⟩ := hy5
   refine sqA rfl rfl ?_
   refine sq_nil ?_
   refine se_block ?_
   refine se_seq ?_
   refine scK [2, 8, 10, 11, 12, 83, 84, 85] rfl ?_
   refine sc_region ?_
   refine sq_q (q_add rfl rfl (w_i64 (by omega) (by omega))) rfl ?_
   refine sqM rfl rfl ?_
   refine sq_nil ?_
   refine se_loop ⟨i + 1, N6, v1b, R1b, vs ++ [_], v2b, R2b, _⟩ (by dsimp only; omega) ⟨by dsimp only; omega, hy2, hy6, hbs.snoc (by rw [hr2.1, Nat.mul_one]) hnsub hby, hnfr⟩ ⟨rfl, rfl, rfl, rfl, rfl, rfl, rfl, rfl, trivial⟩ (fun _ h => h)
  have hp1 := part_err hcut
  change Sq _ _ _ _ _ _ _ _ N4 ((N2, .cells (hdrL bs).toArray 25 (0, 0)) :: (q.fp, fileO bs (isBig bs) (hd bs).type (hd bs).machine (hd bs).entry (.slice (some ⟨q.sb, 0, none⟩) (hd bs).shnum q.scap) (.slice (some ⟨q.pb, 0, none⟩) (hd bs).phnum q.pcap)) :: (q.pb, .cells (ptrs q.pf (hd bs).phnum ++ q.ppad).toArray 89 (0, 0)) :: (q.sb, .cells (ptrs q.sf (hd bs).shnum ++ q.spad).toArray 73 (0, 0)) :: (w.heap.size, .cells [.int .i64 0, .int .i64 0, .int .i64 0, .int .i64 0, .int .i64 0, .int .i64 0, .int .i64 0, .int .u64 0].toArray 25 (0, 0)) :: (1, g.o) :: (0, gu.o) :: (R1b ++ (R2 ++ (nn ++ (pmem bs u q.pf (hd bs).phnum ++ (smem bs u (nameOf bs) q.sf (hd bs).shnum ++ ms))))))
  refine sqK [2, 8, 10, 11, 12, 15, 16, 83, 84, 85] rfl ?_
  refine sc_seq ?_
  refine scR ?_
  refine sqM rfl rfl ?_
  refine sq_q (q_iface_neq_nil rfl rfl Tryd.runUnderlying86) rfl ?_
  refine sqK [2, 8, 10, 11, 12, 15, 83, 84, 85, 158] rfl ?_
  refine sc_cond_t rfl ?_
  refine sc_region ?_
  refine sqA rfl rfl ?_
  refine sqK [2, 8, 10, 11, 12, 15, 83, 84, 85] rfl ?_
  refine sc_region ?_
  iterate 2 refine sqM rfl rfl ?_
  refine sq_q (q_app0 rfl rfl Tryd.underlying22 (i := Tryd.t5) (by kernel_rfl)) rfl ?_
  have hby : ByIn nn (.slice none 0 0) (partOf bs i) := .inl ⟨hp1, none, 0, rfl⟩
  have hnsub : List.Subset nn nn := fun p hp => hp
  have hnfr := hnn
  refine sq_m (m_lit (vs := [(0, _)]) ⟨rfl, rfl, trivial⟩ (e := 22) (l := [.slice none 0 0]) (fun w => by kernel_rfl)) rfl (fun _ _ => ?_)
  refine sq_mem (fun _ h => h.sublist (List.Sublist.refl _)) ?_
  refine sq_m (m_app_any (i := Tryd.t22) (z := (.slice none 0 0)) (k := 1) (R := R2) (rest := ([(N2, .cells (hdrL bs).toArray 25 (0, 0)), (q.fp, fileO bs (isBig bs) (hd bs).type (hd bs).machine (hd bs).entry (.slice (some ⟨q.sb, 0, none⟩) (hd bs).shnum q.scap) (.slice (some ⟨q.pb, 0, none⟩) (hd bs).phnum q.pcap)), (q.pb, .cells (ptrs q.pf (hd bs).phnum ++ q.ppad).toArray 89 (0, 0)), (q.sb, .cells (ptrs q.sf (hd bs).shnum ++ q.spad).toArray 73 (0, 0)), (w.heap.size, .cells [.int .i64 0, .int .i64 0, .int .i64 0, .int .i64 0, .int .i64 0, .int .i64 0, .int .i64 0, .int .u64 0].toArray 25 (0, 0)), (1, g.o), (0, gu.o)] ++ (R1b ++ (nn ++ (pmem bs u q.pf (hd bs).phnum ++ (smem bs u (nameOf bs) q.sf (hd bs).shnum ++ ms)))))) (news := [.slice none 0 0]) (out := fun R' => (N2, .cells (hdrL bs).toArray 25 (0, 0)) :: (q.fp, fileO bs (isBig bs) (hd bs).type (hd bs).machine (hd bs).entry (.slice (some ⟨q.sb, 0, none⟩) (hd bs).shnum q.scap) (.slice (some ⟨q.pb, 0, none⟩) (hd bs).phnum q.pcap)) :: (q.pb, .cells (ptrs q.pf (hd bs).phnum ++ q.ppad).toArray 89 (0, 0)) :: (q.sb, .cells (ptrs q.sf (hd bs).shnum ++ q.spad).toArray 73 (0, 0)) :: (w.heap.size, .cells [.int .i64 0, .int .i64 0, .int .i64 0, .int .i64 0, .int .i64 0, .int .i64 0, .int .i64 0, .int .u64 0].toArray 25 (0, 0)) :: (1, g.o) :: (0, gu.o) :: (R1b ++ (R' ++ (nn ++ (pmem bs u q.pf (hd bs).phnum ++ (smem bs u (nameOf bs) q.sf (hd bs).shnum ++ ms)))))) hr2 rfl rfl (.cons _ (permA (R := R2) (F := [(N2, .cells (hdrL bs).toArray 25 (0, 0)), (q.fp, fileO bs (isBig bs) (hd bs).type (hd bs).machine (hd bs).entry (.slice (some ⟨q.sb, 0, none⟩) (hd bs).shnum q.scap) (.slice (some ⟨q.pb, 0, none⟩) (hd bs).phnum q.pcap)), (q.pb, .cells (ptrs q.pf (hd bs).phnum ++ q.ppad).toArray 89 (0, 0)), (q.sb, .cells (ptrs q.sf (hd bs).shnum ++ q.spad).toArray 73 (0, 0)), (w.heap.size, .cells [.int .i64 0, .int .i64 0, .int .i64 0, .int .i64 0, .int .i64 0, .int .i64 0, .int .i64 0, .int .u64 0].toArray 25 (0, 0)), (1, g.o), (0, gu.o)]) (R1 := R1b) (W := nn ++ (pmem bs u q.pf (hd bs).phnum ++ (smem bs u (nameOf bs) q.sf (hd bs).shnum ++ ms)))).symm) (fun R' => permA) Tryd.underlying27 (by kernel_rfl) (by kernel_rfl) t22_size (by kernel_rfl) rfl rfl (by omega) (bytes_fit (by omega) t22_bytes) (by intro b h1 h2; omega)) rfl (fun y5 hy5 => ?_)
  obtain ⟨v2b, R2b, N6⟩ := y5
  dsimp only at hy5
  obtain ⟨hy5, hy6⟩ := hy5
  refine sqA rfl rfl ?_
  refine sq_nil ?_
  refine se_block ?_
  refine se_seq ?_
  refine scK [2, 8, 10, 11, 12, 83, 84, 85] rfl ?_
  refine sc_region ?_
  refine sq_q (q_add rfl rfl (w_i64 (by omega) (by omega))) rfl ?_
  refine sqM rfl rfl ?_
  refine sq_nil ?_
  refine se_loop ⟨i + 1, N6, v1b, R1b, vs ++ [_], v2b, R2b, _⟩ (by dsimp only; omega) ⟨by dsimp only; omega, hy2, hy6, hbs.snoc (by rw [hr2.1, Nat.mul_one]) hnsub hby, hnfr⟩ ⟨rfl, rfl, rfl, rfl, rfl, rfl, rfl, rfl, trivial⟩ (fun _ h => h)
 have hdone : i = (hd bs).shnum := by omega
 subst hdone
 refine sqZ ?_
 refine sc_seq ?_
 refine sc_cond_f rfl ?_
 refine sc_exit ?_
 iterate 2 refine se_then_exit ?_
 refine se_block_hit ?_
 refine se_seq ?_
 refine scK [2, 8, 10, 11, 12] rfl ?_
 refine scR ?_
 refine sqA rfl rfl ?_
 refine sqZ ?_
 refine scR ?_
 refine sqA rfl rfl ?_
 refine sqZ ?_
 refine sc_seq ?_
 refine scR ?_
 refine sqM rfl rfl ?_
 refine sq_q (q_nil rfl) rfl ?_
 refine sq_q (q_fieldj (j := 10) rfl Tryd.runUnderlying72 rfl Tryd.sizeOf68 rfl) rfl ?_
 refine sq_q (q_load1 rfl Tryd.isAgg68 (i := 1) rfl rfl) rfl ?_
 refine sq_q (q_len rfl Tryd.runUnderlying68) rfl ?_
 refine sqM rfl rfl ?_
 refine sqK [2, 10, 11, 12, 17, 18, 168, 169, 170] rfl ?_
 refine sc_block ?_
 refine sc_loop (ι := L1) (fun z => [(2, .pointer (some ⟨w.heap.size, 0, none⟩)), (10, .pointer (some ⟨N2, 0, none⟩)), (11, v1), (12, v2), (17, z.v1), (18, z.v2), (168, .slice (some ⟨q.pb, 0, none⟩) (hd bs).phnum q.pcap), (169, .int .i64 ((hd bs).phnum : Int)), (170, .int .i64 (z.i : Int))]) (fun z => z.N) (fun z => (N2, .cells (hdrL bs).toArray 25 (0, 0)) :: (q.fp, fileO bs (isBig bs) (hd bs).type (hd bs).machine (hd bs).entry (.slice (some ⟨q.sb, 0, none⟩) (hd bs).shnum q.scap) (.slice (some ⟨q.pb, 0, none⟩) (hd bs).phnum q.pcap)) :: (q.pb, .cells (ptrs q.pf (hd bs).phnum ++ q.ppad).toArray 89 (0, 0)) :: (q.sb, .cells (ptrs q.sf (hd bs).shnum ++ q.spad).toArray 73 (0, 0)) :: (w.heap.size, .cells [.int .i64 0, .int .i64 0, .int .i64 0, .int .i64 0, .int .i64 0, .int .i64 0, .int .i64 0, .int .u64 0].toArray 25 (0, 0)) :: (1, g.o) :: (0, gu.o) :: (z.R1 ++ (z.R2 ++ (z.nn ++ (R1 ++ (R2 ++ (nn ++ (pmem bs u q.pf (hd bs).phnum ++ (smem bs u (nameOf bs) q.sf (hd bs).shnum ++ ms))))))))) (L2F bs w.heap.size) (fun z => (hd bs).phnum - z.i) ⟨0, N, .slice none 0 0, [], [], .slice none 0 0, [], []⟩ ⟨⟨by simp, ⟨rfl, .inl ⟨rfl, rfl, rfl⟩⟩, ⟨rfl, .inl ⟨rfl, rfl, rfl⟩⟩, fun i v h => by simp at h, fun p hp => by cases hp⟩, ⟨rfl, rfl, rfl, rfl, rfl, rfl, rfl, rfl, rfl, trivial⟩, rfl, fun _ h => h⟩ ?_
 rintro ⟨i, N, v3, R3, vs2, v4, R4, nn2⟩ ⟨hi2, hr3, hr4, hbs2, hnn2⟩
 dsimp only at hi2 hr3 hr4 hbs2 hnn2
 change Sc _ _ _ _ _ _ [(2, .pointer (some ⟨w.heap.size, 0, none⟩)), (10, .pointer (some ⟨N2, 0, none⟩)), (11, v1), (12, v2), (17, v3), (18, v4), (168, .slice (some ⟨q.pb, 0, none⟩) (hd bs).phnum q.pcap), (169, .int .i64 ((hd bs).phnum : Int)), (170, .int .i64 (i : Int))] N ((N2, .cells (hdrL bs).toArray 25 (0, 0)) :: (q.fp, fileO bs (isBig bs) (hd bs).type (hd bs).machine (hd bs).entry (.slice (some ⟨q.sb, 0, none⟩) (hd bs).shnum q.scap) (.slice (some ⟨q.pb, 0, none⟩) (hd bs).phnum q.pcap)) :: (q.pb, .cells (ptrs q.pf (hd bs).phnum ++ q.ppad).toArray 89 (0, 0)) :: (q.sb, .cells (ptrs q.sf (hd bs).shnum ++ q.spad).toArray 73 (0, 0)) :: (w.heap.size, .cells [.int .i64 0, .int .i64 0, .int .i64 0, .int .i64 0, .int .i64 0, .int .i64 0, .int .i64 0, .int .u64 0].toArray 25 (0, 0)) :: (1, g.o) :: (0, gu.o) :: (R3 ++ (R4 ++ (nn2 ++ (R1 ++ (R2 ++ (nn ++ (pmem bs u q.pf (hd bs).phnum ++ (smem bs u (nameOf bs) q.sf (hd bs).shnum ++ ms)))))))))
 refine sc_known fun hnd1 hge1 hlt1 => ?_
 refine scR ?_
 refine sq_split (q_lss rfl rfl) rfl (fun h19_0 => ?_) (fun h19_0 => ?_)
 ·
  have hin : i < (hd bs).phnum := by omega
  obtain ⟨q1, q2, q3, q4, q5, q6, q7, q8⟩ : (prow bs i).Lt := prowAt_lt _ _ _ _
  have hok := hg.ps i hin
  have hfz := hfit.fs i hin
  have hpin : ((q.pf i).1, progO (prow bs i) (q.pf i).2) ∈ (R1 ++ (R2 ++ (nn ++ (pmem bs u q.pf (hd bs).phnum ++ (smem bs u (nameOf bs) q.sf (hd bs).shnum ++ ms))))) := List.mem_append_right _ (List.mem_append_right _ (List.mem_append_right _ (List.mem_append_left _ (mem2_get hin).1)))
  have hpin2 : ((q.pf i).2, rdO u (prow bs i).off (prow bs i).filesz) ∈ (R1 ++ (R2 ++ (nn ++ (pmem bs u q.pf (hd bs).phnum ++ (smem bs u (nameOf bs) q.sf (hd bs).shnum ++ ms))))) := List.mem_append_right _ (List.mem_append_right _ (List.mem_append_right _ (List.mem_append_left _ (mem2_get hin).2)))
  refine sqZ ?_
  refine sc_seq ?_
  refine sc_cond_t rfl ?_
  refine scS ?_
  refine scK [2, 10, 11, 12, 17, 18, 168, 169, 170] rfl ?_
  refine sc_seq ?_
  refine sc_block ?_
  refine scR ?_
  refine sq_q (q_index (j := i) rfl rfl Tryd.runUnderlying68 Tryd.sizeOf89 ⟨by omega, by omega⟩ (by rw [Int.toNat_natCast]; omega)) rfl ?_
  refine sq_q (q_load1 rfl Tryd.isAgg89 (i := 2) rfl (ptrs_get hin _)) rfl ?_
  refine sqA rfl rfl ?_
  refine sqK [2, 10, 11, 12, 17, 18, 20, 168, 169, 170] rfl ?_
  refine sc_seq ?_
  refine sc_draw [0, 1, 2, 3, 4, 5, 6, 7, 8, 9, 10, 11, 12, 13, 14, 15, 16, 17, 18, 19, 20, 21, 22, 23, 24, 25, 26, 27, 28, 29, 30, 31, 32, 33, 34, 35, 36, 37, 38, 39, 40, 41, 42, 43, 44, 45] [43, 44] [((q.pf i).1, progO (prow bs i) (q.pf i).2)] mixed (by kernel_rfl) (by kernel_rfl) (fun p hp => by rw [List.mem_singleton.1 hp]; exact in_all (F := [(N2, .cells (hdrL bs).toArray 25 (0, 0)), (q.fp, fileO bs (isBig bs) (hd bs).type (hd bs).machine (hd bs).entry (.slice (some ⟨q.sb, 0, none⟩) (hd bs).shnum q.scap) (.slice (some ⟨q.pb, 0, none⟩) (hd bs).phnum q.pcap)), (q.pb, .cells (ptrs q.pf (hd bs).phnum ++ q.ppad).toArray 89 (0, 0)), (q.sb, .cells (ptrs q.sf (hd bs).shnum ++ q.spad).toArray 73 (0, 0)), (w.heap.size, .cells [.int .i64 0, .int .i64 0, .int .i64 0, .int .i64 0, .int .i64 0, .int .i64 0, .int .i64 0, .int .u64 0].toArray 25 (0, 0)), (1, g.o), (0, gu.o)]) hpin) ?_
  iterate 2 refine drM rfl rfl rfl ?_
  refine dr_q rfl rfl (q_nil rfl) ?_
  refine dr_q rfl rfl (q_fieldj (j := 0) rfl Tryd.runUnderlying95 rfl Tryd.sizeOf93 rfl) ?_
  refine dr_q rfl rfl (q_fieldj (j := 0) rfl Tryd.runUnderlying93 rfl Tryd.sizeOf90 rfl) ?_
  refine dr_q rfl rfl (q_load1 rfl Tryd.isAgg90 (i := 0) rfl rfl) ?_
  refine drM rfl rfl rfl ?_
  refine dr_q rfl rfl (q_nil rfl) ?_
  refine dr_q rfl rfl (q_fieldj (j := 0) rfl Tryd.runUnderlying95 rfl Tryd.sizeOf93 rfl) ?_
  refine dr_q rfl rfl (q_fieldj (j := 1) rfl Tryd.runUnderlying93 rfl Tryd.sizeOf91 rfl) ?_
  refine dr_q rfl rfl (q_load1 rfl Tryd.isAgg91 (i := 0) rfl rfl) ?_
  refine dr_q rfl rfl (q_conv rfl Tryd.runUnderlying91 Tryd.runUnderlying3 (w_i64 (by omega) (by omega))) ?_
  refine drM rfl rfl rfl ?_
  refine dr_q rfl rfl (q_nil rfl) ?_
  refine dr_q rfl rfl (q_fieldj (j := 0) rfl Tryd.runUnderlying95 rfl Tryd.sizeOf93 rfl) ?_
  refine dr_q rfl rfl (q_fieldj (j := 2) rfl Tryd.runUnderlying93 rfl Tryd.sizeOf23 rfl) ?_
  refine dr_q rfl rfl (q_load1 rfl Tryd.isAgg23 (i := 0) rfl rfl) ?_
  refine drM rfl rfl rfl ?_
  refine dr_q rfl rfl (q_nil rfl) ?_
  refine dr_q rfl rfl (q_fieldj (j := 0) rfl Tryd.runUnderlying95 rfl Tryd.sizeOf93 rfl) ?_
  refine dr_q rfl rfl (q_fieldj (j := 3) rfl Tryd.runUnderlying93 rfl Tryd.sizeOf23 rfl) ?_
  refine dr_q rfl rfl (q_load1 rfl Tryd.isAgg23 (i := 0) rfl rfl) ?_
  refine drM rfl rfl rfl ?_
  refine dr_q rfl rfl (q_nil rfl) ?_
  refine dr_q rfl rfl (q_fieldj (j := 0) rfl Tryd.runUnderlying95 rfl Tryd.sizeOf93 rfl) ?_
  refine dr_q rfl rfl (q_fieldj (j := 4) rfl Tryd.runUnderlying93 rfl Tryd.sizeOf23 rfl) ?_
  refine dr_q rfl rfl (q_load1 rfl Tryd.isAgg23 (i := 0) rfl rfl) ?_
  refine drM rfl rfl rfl ?_
  refine dr_q rfl rfl (q_nil rfl) ?_
  refine dr_q rfl rfl (q_fieldj (j := 0) rfl Tryd.runUnderlying95 rfl Tryd.sizeOf93 rfl) ?_
  refine dr_q rfl rfl (q_fieldj (j := 5) rfl Tryd.runUnderlying93 rfl Tryd.sizeOf23 rfl) ?_
  refine dr_q rfl rfl (q_load1 rfl Tryd.isAgg23 (i := 0) rfl rfl) ?_
  refine drM rfl rfl rfl ?_
  refine dr_q rfl rfl (q_nil rfl) ?_
  refine dr_q rfl rfl (q_fieldj (j := 0) rfl Tryd.runUnderlying95 rfl Tryd.sizeOf93 rfl) ?_
  refine dr_q rfl rfl (q_fieldj (j := 6) rfl Tryd.runUnderlying93 rfl Tryd.sizeOf23 rfl) ?_
  refine dr_q rfl rfl (q_load1 rfl Tryd.isAgg23 (i := 0) rfl rfl) ?_
  refine drM rfl rfl rfl ?_
  refine dr_q rfl rfl (q_nil rfl) ?_
  refine dr_q rfl rfl (q_fieldj (j := 0) rfl Tryd.runUnderlying95 rfl Tryd.sizeOf93 rfl) ?_
  refine dr_q rfl rfl (q_fieldj (j := 7) rfl Tryd.runUnderlying93 rfl Tryd.sizeOf23 rfl) ?_
  refine dr_q rfl rfl (q_load1 rfl Tryd.isAgg23 (i := 0) rfl rfl) ?_
  refine dr_q rfl rfl (q_build (vs := [(0, .int .i64 (((prow bs i).type : Nat) : Int)), (1, .int .i64 (((prow bs i).flags : Nat) : Int)), (2, .int .u64 (((prow bs i).off : Nat) : Int)), (3, .int .u64 (((prow bs i).vaddr : Nat) : Int)), (4, .int .u64 (((prow bs i).paddr : Nat) : Int)), (5, .int .u64 (((prow bs i).filesz : Nat) : Int)), (6, .int .u64 (((prow bs i).memsz : Nat) : Int)), (7, .int .u64 (((prow bs i).align : Nat) : Int))]) (cs := #[.int .i64 (((prow bs i).type : Nat) : Int), .int .i64 (((prow bs i).flags : Nat) : Int), .int .u64 (((prow bs i).off : Nat) : Int), .int .u64 (((prow bs i).vaddr : Nat) : Int), .int .u64 (((prow bs i).paddr : Nat) : Int), .int .u64 (((prow bs i).filesz : Nat) : Int), .int .u64 (((prow bs i).memsz : Nat) : Int), .int .u64 (((prow bs i).align : Nat) : Int)]) ⟨rfl, rfl, rfl, rfl, rfl, rfl, rfl, rfl, rfl, rfl, rfl, rfl, rfl, rfl, rfl, rfl, trivial⟩ (fun _ => by kernel_rfl)) ?_
  refine dr_m rfl rfl (m_lit (vs := [(0, _)]) ⟨rfl, rfl, trivial⟩ (e := 41) (l := [.int .i64 (((prow bs i).type : Nat) : Int), .int .i64 (((prow bs i).flags : Nat) : Int), .int .u64 (((prow bs i).off : Nat) : Int), .int .u64 (((prow bs i).vaddr : Nat) : Int), .int .u64 (((prow bs i).paddr : Nat) : Int), .int .u64 (((prow bs i).filesz : Nat) : Int), .int .u64 (((prow bs i).memsz : Nat) : Int), .int .u64 (((prow bs i).align : Nat) : Int)]) (fun w => by kernel_rfl)) (fun _ _ p hp => List.mem_cons_of_mem _ (by rw [List.mem_singleton.1 hp]; exact in_all (F := [(N2, .cells (hdrL bs).toArray 25 (0, 0)), (q.fp, fileO bs (isBig bs) (hd bs).type (hd bs).machine (hd bs).entry (.slice (some ⟨q.sb, 0, none⟩) (hd bs).shnum q.scap) (.slice (some ⟨q.pb, 0, none⟩) (hd bs).phnum q.pcap)), (q.pb, .cells (ptrs q.pf (hd bs).phnum ++ q.ppad).toArray 89 (0, 0)), (q.sb, .cells (ptrs q.sf (hd bs).shnum ++ q.spad).toArray 73 (0, 0)), (w.heap.size, .cells [.int .i64 0, .int .i64 0, .int .i64 0, .int .i64 0, .int .i64 0, .int .i64 0, .int .i64 0, .int .u64 0].toArray 25 (0, 0)), (1, g.o), (0, gu.o)]) hpin)) (fun _ _ => ?_)
  refine dr_m rfl rfl (m_app_any (i := Tryd.t41) (z := (.agg #[.int .i64 0, .int .i64 0, .int .u64 0, .int .u64 0, .int .u64 0, .int .u64 0, .int .u64 0, .int .u64 0])) (k := 8) (R := R3) (rest := ([(N2, .cells (hdrL bs).toArray 25 (0, 0)), (q.fp, fileO bs (isBig bs) (hd bs).type (hd bs).machine (hd bs).entry (.slice (some ⟨q.sb, 0, none⟩) (hd bs).shnum q.scap) (.slice (some ⟨q.pb, 0, none⟩) (hd bs).phnum q.pcap)), (q.pb, .cells (ptrs q.pf (hd bs).phnum ++ q.ppad).toArray 89 (0, 0)), (q.sb, .cells (ptrs q.sf (hd bs).shnum ++ q.spad).toArray 73 (0, 0)), (w.heap.size, .cells [.int .i64 0, .int .i64 0, .int .i64 0, .int .i64 0, .int .i64 0, .int .i64 0, .int .i64 0, .int .u64 0].toArray 25 (0, 0)), (1, g.o), (0, gu.o)] ++ (R4 ++ (nn2 ++ (R1 ++ (R2 ++ (nn ++ (pmem bs u q.pf (hd bs).phnum ++ (smem bs u (nameOf bs) q.sf (hd bs).shnum ++ ms))))))))) (news := [.int .i64 (((prow bs i).type : Nat) : Int), .int .i64 (((prow bs i).flags : Nat) : Int), .int .u64 (((prow bs i).off : Nat) : Int), .int .u64 (((prow bs i).vaddr : Nat) : Int), .int .u64 (((prow bs i).paddr : Nat) : Int), .int .u64 (((prow bs i).filesz : Nat) : Int), .int .u64 (((prow bs i).memsz : Nat) : Int), .int .u64 (((prow bs i).align : Nat) : Int)]) (out := fun R' => (N2, .cells (hdrL bs).toArray 25 (0, 0)) :: (q.fp, fileO bs (isBig bs) (hd bs).type (hd bs).machine (hd bs).entry (.slice (some ⟨q.sb, 0, none⟩) (hd bs).shnum q.scap) (.slice (some ⟨q.pb, 0, none⟩) (hd bs).phnum q.pcap)) :: (q.pb, .cells (ptrs q.pf (hd bs).phnum ++ q.ppad).toArray 89 (0, 0)) :: (q.sb, .cells (ptrs q.sf (hd bs).shnum ++ q.spad).toArray 73 (0, 0)) :: (w.heap.size, .cells [.int .i64 0, .int .i64 0, .int .i64 0, .int .i64 0, .int .i64 0, .int .i64 0, .int .i64 0, .int .u64 0].toArray 25 (0, 0)) :: (1, g.o) :: (0, gu.o) :: (R' ++ (R4 ++ (nn2 ++ (R1 ++ (R2 ++ (nn ++ (pmem bs u q.pf (hd bs).phnum ++ (smem bs u (nameOf bs) q.sf (hd bs).shnum ++ ms))))))))) hr3 rfl rfl (.cons _ (List.perm_append_comm_assoc [(N2, .cells (hdrL bs).toArray 25 (0, 0)), (q.fp, fileO bs (isBig bs) (hd bs).type (hd bs).machine (hd bs).entry (.slice (some ⟨q.sb, 0, none⟩) (hd bs).shnum q.scap) (.slice (some ⟨q.pb, 0, none⟩) (hd bs).phnum q.pcap)), (q.pb, .cells (ptrs q.pf (hd bs).phnum ++ q.ppad).toArray 89 (0, 0)), (q.sb, .cells (ptrs q.sf (hd bs).shnum ++ q.spad).toArray 73 (0, 0)), (w.heap.size, .cells [.int .i64 0, .int .i64 0, .int .i64 0, .int .i64 0, .int .i64 0, .int .i64 0, .int .i64 0, .int .u64 0].toArray 25 (0, 0)), (1, g.o), (0, gu.o)] R3 (R4 ++ (nn2 ++ (R1 ++ (R2 ++ (nn ++ (pmem bs u q.pf (hd bs).phnum ++ (smem bs u (nameOf bs) q.sf (hd bs).shnum ++ ms))))))))) (fun R' => (List.perm_append_comm_assoc R' [(N2, .cells (hdrL bs).toArray 25 (0, 0)), (q.fp, fileO bs (isBig bs) (hd bs).type (hd bs).machine (hd bs).entry (.slice (some ⟨q.sb, 0, none⟩) (hd bs).shnum q.scap) (.slice (some ⟨q.pb, 0, none⟩) (hd bs).phnum q.pcap)), (q.pb, .cells (ptrs q.pf (hd bs).phnum ++ q.ppad).toArray 89 (0, 0)), (q.sb, .cells (ptrs q.sf (hd bs).shnum ++ q.spad).toArray 73 (0, 0)), (w.heap.size, .cells [.int .i64 0, .int .i64 0, .int .i64 0, .int .i64 0, .int .i64 0, .int .i64 0, .int .i64 0, .int .u64 0].toArray 25 (0, 0)), (1, g.o), (0, gu.o)] (R4 ++ (nn2 ++ (R1 ++ (R2 ++ (nn ++ (pmem bs u q.pf (hd bs).phnum ++ (smem bs u (nameOf bs) q.sf (hd bs).shnum ++ ms))))))))) Tryd.underlying28 (by kernel_rfl) (by kernel_rfl) t41_size (by kernel_rfl) rfl rfl (by omega) (bytes_fit (by omega) t41_bytes) (by intro b h1 h2; omega)) (fun _ _ p hp => by rw [List.mem_singleton.1 hp]; exact in_all (F := [(N2, .cells (hdrL bs).toArray 25 (0, 0)), (q.fp, fileO bs (isBig bs) (hd bs).type (hd bs).machine (hd bs).entry (.slice (some ⟨q.sb, 0, none⟩) (hd bs).shnum q.scap) (.slice (some ⟨q.pb, 0, none⟩) (hd bs).phnum q.pcap)), (q.pb, .cells (ptrs q.pf (hd bs).phnum ++ q.ppad).toArray 89 (0, 0)), (q.sb, .cells (ptrs q.sf (hd bs).shnum ++ q.spad).toArray 73 (0, 0)), (w.heap.size, .cells [.int .i64 0, .int .i64 0, .int .i64 0, .int .i64 0, .int .i64 0, .int .i64 0, .int .i64 0, .int .u64 0].toArray 25 (0, 0)), (1, g.o), (0, gu.o)]) hpin) (fun y hy => ?_)
  refine drA rfl rfl rfl ?_
  refine dr_nil ?_
  obtain ⟨v3b, R3b, N3⟩ := y
  dsimp only at hy
  obtain ⟨hy1, hy2⟩ := hy
  change Se _ _ _ _ _ _ N3 ((N2, .cells (hdrL bs).toArray 25 (0, 0)) :: (q.fp, fileO bs (isBig bs) (hd bs).type (hd bs).machine (hd bs).entry (.slice (some ⟨q.sb, 0, none⟩) (hd bs).shnum q.scap) (.slice (some ⟨q.pb, 0, none⟩) (hd bs).phnum q.pcap)) :: (q.pb, .cells (ptrs q.pf (hd bs).phnum ++ q.ppad).toArray 89 (0, 0)) :: (q.sb, .cells (ptrs q.sf (hd bs).shnum ++ q.spad).toArray 73 (0, 0)) :: (w.heap.size, .cells [.int .i64 0, .int .i64 0, .int .i64 0, .int .i64 0, .int .i64 0, .int .i64 0, .int .i64 0, .int .u64 0].toArray 25 (0, 0)) :: (1, g.o) :: (0, gu.o) :: (R3b ++ (R4 ++ (nn2 ++ (R1 ++ (R2 ++ (nn ++ (pmem bs u q.pf (hd bs).phnum ++ (smem bs u (nameOf bs) q.sf (hd bs).shnum ++ ms)))))))))
  obtain ⟨kp, hkp⟩ := List.getElem?_of_mem (in_all (F := []) (A := R3b) (B := R4) (C := nn2) hpin)
  obtain ⟨kr, hkr⟩ := List.getElem?_of_mem (in_all (F := []) (A := R3b) (B := R4) (C := nn2) hpin2)
  refine se_seq ?_
  refine scK [2, 10, 11, 12, 17, 18, 20, 168, 169, 170] rfl ?_
  refine scR ?_
  refine sqM rfl rfl ?_
  refine sq_q (q_nil rfl) rfl ?_
  refine sq_q (q_fieldj (j := 0) rfl Tryd.runUnderlying95 rfl Tryd.sizeOf93 rfl) rfl ?_
  refine sq_q (q_fieldj (j := 5) rfl Tryd.runUnderlying93 rfl Tryd.sizeOf23 rfl) rfl ?_
  refine sq_q (q_load1 rfl Tryd.isAgg23 (i := kp + 7) hkp rfl) rfl ?_
  refine sq_q (q_conv rfl Tryd.runUnderlying23 Tryd.runUnderlying3 (w_i64 (by omega) (by omega))) rfl ?_
  refine sq_known fun hnd0 hge0 hlt0 => ?_
  refine sq_m (m_make (kl := .i64) (kc := .i64) (len := (prow bs i).filesz) (cap := (prow bs i).filesz) (i := Tryd.t5) (z := .int .u8 0) rfl rfl Tryd.underlying22 (by kernel_rfl) (by kernel_rfl) (by kernel_rfl) rfl (Nat.le_refl _) (mk_fits (by omega)) (by omega)) rfl (fun _ _ => ?_)
  refine sq_known fun hnd hge hlt => ?_
  refine sqA rfl rfl ?_
  refine sqKR [2, 10, 11, 12, 17, 18, 20, 21, 168, 169, 170] rfl ?_
  refine sqM rfl rfl ?_
  refine sq_q (q_nil rfl) rfl ?_
  refine sq_q (q_fieldj (j := 8) rfl Tryd.runUnderlying95 rfl Tryd.sizeOf80 rfl) rfl ?_
  refine sq_q (q_load1 rfl Tryd.isAgg80 (i := kp + 8) hkp rfl) rfl ?_
  refine sqM rfl rfl ?_
  refine sq_m ((rc_piece hown2 hlen (nn := .int .i64 ((prow bs i).filesz : Int)) (cur := (prow bs i).off) (by have := hok.1; omega) (nd_pr hnd (mem2_sub (f := q.pf) (A := fun i => progO (prow bs i)) (B := fun i => rdO u (prow bs i).off (prow bs i).filesz) hin))).inv (mm' := fun xs => (N3, .cells (lay (List.replicate (prow bs i).filesz (.int .u8 0)) 0 xs).toArray 5 (0, 0)) :: (N2, .cells (hdrL bs).toArray 25 (0, 0)) :: (q.fp, fileO bs (isBig bs) (hd bs).type (hd bs).machine (hd bs).entry (.slice (some ⟨q.sb, 0, none⟩) (hd bs).shnum q.scap) (.slice (some ⟨q.pb, 0, none⟩) (hd bs).phnum q.pcap)) :: (q.pb, .cells (ptrs q.pf (hd bs).phnum ++ q.ppad).toArray 89 (0, 0)) :: (q.sb, .cells (ptrs q.sf (hd bs).shnum ++ q.spad).toArray 73 (0, 0)) :: (w.heap.size, .cells [.int .i64 0, .int .i64 0, .int .i64 0, .int .i64 0, .int .i64 0, .int .i64 0, .int .i64 0, .int .u64 0].toArray 25 (0, 0)) :: (1, g.o) :: (0, gu.o) :: (R3b ++ (R4 ++ (nn2 ++ (R1 ++ (R2 ++ (nn ++ (pmem bs u q.pf (hd bs).phnum ++ (smem bs u (nameOf bs) q.sf (hd bs).shnum ++ ms))))))))) (i := 0) (off := 0) (m := (prow bs i).filesz) rfl rfl rfl rfl (sub_pr hpin2) (by simp) (Nat.ne_of_lt (hlt0 (1, g.o) (by simp))) (fun p hp => Nat.ne_of_lt (pr_lt0 (F := [(N2, .cells (hdrL bs).toArray 25 (0, 0)), (q.fp, fileO bs (isBig bs) (hd bs).type (hd bs).machine (hd bs).entry (.slice (some ⟨q.sb, 0, none⟩) (hd bs).shnum q.scap) (.slice (some ⟨q.pb, 0, none⟩) (hd bs).phnum q.pcap)), (q.pb, .cells (ptrs q.pf (hd bs).phnum ++ q.ppad).toArray 89 (0, 0)), (q.sb, .cells (ptrs q.sf (hd bs).shnum ++ q.spad).toArray 73 (0, 0)), (w.heap.size, .cells [.int .i64 0, .int .i64 0, .int .i64 0, .int .i64 0, .int .i64 0, .int .i64 0, .int .i64 0, .int .u64 0].toArray 25 (0, 0)), (1, g.o), (0, gu.o)]) hlt0 hpin2 (fun p hp => by simp [hp]) p hp)) (by rw [List.length_replicate]; omega) (by omega) (by omega) (by omega) (fun _ => rfl) (by intro h; omega)) rfl (fun z hz => ?_)
  obtain ⟨xs, e0, N4⟩ := z
  have hxs : xs = bodyOf bs i := by
   have h8 := hz.1.1
   rw [List.drop_zero, List.take_of_length_le (by unfold cut; simp; omega)] at h8
   exact h8
  have hxl : xs.length ≤ (prow bs i).filesz := by rw [hxs]; unfold bodyOf cut; simp; omega
  have hN4 : N3 + 1 ≤ N4 := hz.2
  have hby : ByIn ((N3, .cells (lay (List.replicate (prow bs i).filesz (.int .u8 0)) 0 xs).toArray 5 (0, 0)) :: nn2) (.slice (some ⟨N3, 0, none⟩) xs.length (prow bs i).filesz) (bodyOf bs i) := by
   rw [← hxs]
   rcases Nat.eq_zero_or_pos xs.length with h0 | h0
   ·
    exact .inl ⟨List.length_eq_zero_iff.1 h0, _, _, by rw [h0]⟩
   ·
    exact .inr ⟨N3, 0, (prow bs i).filesz, _, 5, (0, 0), rfl, hxl, by omega, List.mem_cons_self, At_lay0, by rw [lay_length (by rw [List.length_replicate]; omega), List.length_replicate]; omega, h0⟩
  have hnsub : List.Subset nn2 ((N3, .cells (lay (List.replicate (prow bs i).filesz (.int .u8 0)) 0 xs).toArray 5 (0, 0)) :: nn2) := fun p hp => List.mem_cons_of_mem _ hp
  have hnfr : ∀ p ∈ (N3, Obj.cells (lay (List.replicate (prow bs i).filesz (.int .u8 0)) 0 xs).toArray 5 (0, 0)) :: nn2, w.heap.size ≤ p.1 := fun p hp => by
   rcases List.mem_cons.1 hp with rfl | hp
   ·
    dsimp only; omega
   ·
    exact hnn2 p hp
  refine sqM rfl rfl ?_
  iterate 2 refine sq_q (q_extract rfl rfl) rfl ?_
  iterate 2 refine sqA rfl rfl ?_
  refine sqK [2, 10, 11, 12, 17, 18, 21, 22, 168, 169, 170] rfl ?_
  refine sc_region ?_
  iterate 3 refine sqM rfl rfl ?_
  refine sq_q (q_slice_h (n' := xs.length) rfl rfl Tryd.runUnderlying22 Tryd.sizeOf5 (Int.natCast_nonneg _) (by show ((xs.length : Nat) : Int) ≤ _; omega) rfl) rfl ?_
  refine sq_m (m_lit (vs := [(0, _)]) ⟨rfl, rfl, trivial⟩ (e := 22) (l := [.slice (some ⟨N3, 0, none⟩) xs.length (prow bs i).filesz]) (fun w => by kernel_rfl)) rfl (fun _ _ => ?_)
  refine sq_m (m_app_any (i := Tryd.t22) (z := (.slice none 0 0)) (k := 1) (R := R4) (rest := ([(N2, .cells (hdrL bs).toArray 25 (0, 0)), (q.fp, fileO bs (isBig bs) (hd bs).type (hd bs).machine (hd bs).entry (.slice (some ⟨q.sb, 0, none⟩) (hd bs).shnum q.scap) (.slice (some ⟨q.pb, 0, none⟩) (hd bs).phnum q.pcap)), (q.pb, .cells (ptrs q.pf (hd bs).phnum ++ q.ppad).toArray 89 (0, 0)), (q.sb, .cells (ptrs q.sf (hd bs).shnum ++ q.spad).toArray 73 (0, 0)), (w.heap.size, .cells [.int .i64 0, .int .i64 0, .int .i64 0, .int .i64 0, .int .i64 0, .int .i64 0, .int .i64 0, .int .u64 0].toArray 25 (0, 0)), (1, g.o), (0, gu.o)] ++ (R3b ++ (((N3, .cells (lay (List.replicate (prow bs i).filesz (.int .u8 0)) 0 xs).toArray 5 (0, 0)) :: nn2) ++ (R1 ++ (R2 ++ (nn ++ (pmem bs u q.pf (hd bs).phnum ++ (smem bs u (nameOf bs) q.sf (hd bs).shnum ++ ms))))))))) (news := [.slice (some ⟨N3, 0, none⟩) xs.length (prow bs i).filesz]) (out := fun R' => (N2, .cells (hdrL bs).toArray 25 (0, 0)) :: (q.fp, fileO bs (isBig bs) (hd bs).type (hd bs).machine (hd bs).entry (.slice (some ⟨q.sb, 0, none⟩) (hd bs).shnum q.scap) (.slice (some ⟨q.pb, 0, none⟩) (hd bs).phnum q.pcap)) :: (q.pb, .cells (ptrs q.pf (hd bs).phnum ++ q.ppad).toArray 89 (0, 0)) :: (q.sb, .cells (ptrs q.sf (hd bs).shnum ++ q.spad).toArray 73 (0, 0)) :: (w.heap.size, .cells [.int .i64 0, .int .i64 0, .int .i64 0, .int .i64 0, .int .i64 0, .int .i64 0, .int .i64 0, .int .u64 0].toArray 25 (0, 0)) :: (1, g.o) :: (0, gu.o) :: (R3b ++ (R' ++ (((N3, .cells (lay (List.replicate (prow bs i).filesz (.int .u8 0)) 0 xs).toArray 5 (0, 0)) :: nn2) ++ (R1 ++ (R2 ++ (nn ++ (pmem bs u q.pf (hd bs).phnum ++ (smem bs u (nameOf bs) q.sf (hd bs).shnum ++ ms))))))))) hr4 rfl rfl (.cons _ (permB (F := [(N2, .cells (hdrL bs).toArray 25 (0, 0)), (q.fp, fileO bs (isBig bs) (hd bs).type (hd bs).machine (hd bs).entry (.slice (some ⟨q.sb, 0, none⟩) (hd bs).shnum q.scap) (.slice (some ⟨q.pb, 0, none⟩) (hd bs).phnum q.pcap)), (q.pb, .cells (ptrs q.pf (hd bs).phnum ++ q.ppad).toArray 89 (0, 0)), (q.sb, .cells (ptrs q.sf (hd bs).shnum ++ q.spad).toArray 73 (0, 0)), (w.heap.size, .cells [.int .i64 0, .int .i64 0, .int .i64 0, .int .i64 0, .int .i64 0, .int .i64 0, .int .i64 0, .int .u64 0].toArray 25 (0, 0)), (1, g.o), (0, gu.o)]) (R1 := R3b) (R2 := R4) (W := nn2 ++ (R1 ++ (R2 ++ (nn ++ (pmem bs u q.pf (hd bs).phnum ++ (smem bs u (nameOf bs) q.sf (hd bs).shnum ++ ms)))))))) (fun R' => permA) Tryd.underlying27 (by kernel_rfl) (by kernel_rfl) t22_size (by kernel_rfl) rfl rfl (by omega) (bytes_fit (by omega) t22_bytes) (by intro b h1 h2; omega)) rfl (fun y5 hy5 => ?_)
  obtain ⟨v4b, R4b, N6⟩ := y5
  dsimp only at hy5
  obtain ⟨hy5, hy6⟩ := hy5
  refine sqA rfl rfl ?_
  refine sq_nil ?_
  refine se_block ?_
  refine se_seq ?_
  refine scK [2, 10, 11, 12, 17, 18, 168, 169, 170] rfl ?_
  refine sc_region ?_
  refine sq_q (q_add rfl rfl (w_i64 (by omega) (by omega))) rfl ?_
  refine sqM rfl rfl ?_
  refine sq_nil ?_
  refine se_loop ⟨i + 1, N6, v3b, R3b, vs2 ++ [_], v4b, R4b, _⟩ (by dsimp only; omega) ⟨by dsimp only; omega, hy2, hy6, hbs2.snoc (by rw [hr4.1, Nat.mul_one]) hnsub hby, hnfr⟩ ⟨rfl, rfl, rfl, rfl, rfl, rfl, rfl, rfl, rfl, trivial⟩ (fun _ h => h)
 have hdone : i = (hd bs).phnum := by omega
 subst hdone
 refine sqZ ?_
 refine sc_seq ?_
 refine sc_cond_f rfl ?_
 refine sc_exit ?_
 iterate 2 refine se_then_exit ?_
 refine se_block_hit ?_
 refine se_seq ?_
 refine scK [2, 10, 11, 12, 17, 18] rfl ?_
 refine scR ?_
 refine sq_q (q_loadK rfl Tryd.isAgg25 Tryd.sizeOf25 (i := 0) (vs := hdrL bs) rfl rfl) rfl ?_
 iterate 4 refine sqM rfl rfl ?_
 refine sq_m0 (m_stores (i := 4) (vs := hdrL bs) (l' := hdrL bs) rfl rfl Tryd.sizeOf25 rfl rfl rfl (by simp) rfl rfl (by intro h; omega)) (fun _ _ => ?_)
 iterate 5 refine sqA rfl rfl ?_
 refine sqK [2, 3, 4, 5, 6, 7] rfl ?_
 refine sc_ret ?_
 exact se_end (resc5 Tryd.results6 rfl rfl rfl rfl rfl rfl Tryd.isAgg25 Tryd.sizeOf25 (i := 4) rfl rfl) (fun w' hw => .inr ⟨hg, v1, v2, v3, v4, R3 ++ (R4 ++ (nn2 ++ (R1 ++ (R2 ++ nn)))), rfl, tells_mk hr1 hr2 hbs hr3 hr4 hbs2, fresh_mk hr1 hr2 hnn hr3 hr4 hnn2, hw.eff, fun p hp => hw.has p (file_sub (F := [(N2, .cells (hdrL bs).toArray 25 (0, 0)), (q.fp, fileO bs (isBig bs) (hd bs).type (hd bs).machine (hd bs).entry (.slice (some ⟨q.sb, 0, none⟩) (hd bs).shnum q.scap) (.slice (some ⟨q.pb, 0, none⟩) (hd bs).phnum q.pcap)), (q.pb, .cells (ptrs q.pf (hd bs).phnum ++ q.ppad).toArray 89 (0, 0)), (q.sb, .cells (ptrs q.sf (hd bs).shnum ++ q.spad).toArray 73 (0, 0)), (w.heap.size, .cells (hdrL bs).toArray 25 (0, 0)), (1, g.o), (0, gu.o)]) hp), ((file_sl (F := [(N2, .cells (hdrL bs).toArray 25 (0, 0)), (q.fp, fileO bs (isBig bs) (hd bs).type (hd bs).machine (hd bs).entry (.slice (some ⟨q.sb, 0, none⟩) (hd bs).shnum q.scap) (.slice (some ⟨q.pb, 0, none⟩) (hd bs).phnum q.pcap)), (q.pb, .cells (ptrs q.pf (hd bs).phnum ++ q.ppad).toArray 89 (0, 0)), (q.sb, .cells (ptrs q.sf (hd bs).shnum ++ q.spad).toArray 73 (0, 0)), (w.heap.size, .cells (hdrL bs).toArray 25 (0, 0)), (1, g.o), (0, gu.o)]) (K := (pmem bs u q.pf (hd bs).phnum ++ (smem bs u (nameOf bs) q.sf (hd bs).shnum ++ ms)))).map Prod.fst).nodup hw.nd⟩)

end Go.Proofs.YtgkjnkhoopcjgaaDoor
/- spec.sections: the loop over the table. Conditions: the bytes lie in memory, at most 8192 of them; the header and the programs are right. -/
namespace Go.Proofs.YtgkjnkhoopcjgaaDoor
open Go.Sx
set_option maxRecDepth 100000
set_option maxHeartbeats 4000000

abbrev fndO (bs : List UInt8) (v1 v2 vP v4 : Value) : Obj := .cells [.int .i64 ((bv bs 4 : Nat) : Int), .int .i64 ((bv bs 5 : Nat) : Int), .int .i64 ((bv bs 6 : Nat) : Int), .int .i64 ((bv bs 7 : Nat) : Int), .int .i64 ((bv bs 8 : Nat) : Int), .int .i64 ((hd bs).type : Int), .int .i64 ((hd bs).machine : Int), .int .u64 ((hd bs).entry : Int), v1, v2, vP, v4].toArray 30 (0, 0)
abbrev z12O : Obj := .cells [.int .i64 0, .int .i64 0, .int .i64 0, .int .i64 0, .int .i64 0, .int .i64 0, .int .i64 0, .int .u64 0, .slice none 0 0, .slice none 0 0, .slice none 0 0, .slice none 0 0].toArray 30 (0, 0)
abbrev fldO (fv : Value) (wide big : Bool) : Obj := .cells [fv, .bool wide, .bool big].toArray 45 (0, 0)
abbrev secB (r : SRow) : Obj := .cells (secV [] r).toArray 39 (0, 0)
theorem _root_.Go.Sx.RowOk.one {m : Nat} {e : TypeId} {k n : Nat} {xs : List Value} {v : Value} {R : MM} (h : RowOk m e k xs n v R) : v.oneCell' = true := by
 rcases h.2 with ⟨_, h, _⟩ | ⟨_, _, _, h, _⟩ <;> rw [h] <;> rfl
theorem all12 {bs : List UInt8} {v1 v2 v3 v4 : Value} (h1 : v1.oneCell' = true) (h2 : v2.oneCell' = true) (h3 : v3.oneCell' = true) (h4 : v4.oneCell' = true) : ([.int .i64 ((bv bs 4 : Nat) : Int), .int .i64 ((bv bs 5 : Nat) : Int), .int .i64 ((bv bs 6 : Nat) : Int), .int .i64 ((bv bs 7 : Nat) : Int), .int .i64 ((bv bs 8 : Nat) : Int), .int .i64 ((hd bs).type : Int), .int .i64 ((hd bs).machine : Int), .int .u64 ((hd bs).entry : Int), v1, v2, v3, v4] : List Value).all (·.oneCell') = true := by
 simp only [List.all_cons, List.all_nil, h1, h2, h3, h4, Bool.and_true]
 rfl

def atL (bs : List UInt8) (n : Nat) : List Value := (List.range n).map fun j => .int .u64 (((srow bs j).name : Nat) : Int)
theorem atL_length (bs : List UInt8) (n : Nat) : (atL bs n).length = n := by simp [atL]
theorem atL_succ (bs : List UInt8) (n : Nat) : atL bs (n + 1) = atL bs n ++ [.int .u64 (((srow bs n).name : Nat) : Int)] := by simp [atL, List.range_succ]
/-- What holds before the table of sections. -/
structure PreS (bs : List UInt8) : Prop where
 head : HeadOk bs
 pcut : CutOk bs (hd bs).phoff ((hd bs).phnum * (hd bs).phes)
 ps : ∀ i, i < (hd bs).phnum → (prow bs i).Ok
/-- A round of the loop over the table. -/
structure L0 where
 i : Nat
 N : Nat
 vA : Value
 A : MM
 v1 : Value
 R : MM
structure L0F (bs : List UInt8) (m : Nat) (z : L0) : Prop where
 i : z.i ≤ (hd bs).shnum
 a : RowOk m 23 1 (atL bs z.i) z.i z.vA z.A
 r : RowOk m 39 11 (secsL bs (fun _ => []) z.i) z.i z.v1 z.R
 ok : ∀ j, j < z.i → (srow bs j).Ok ∧ Comp (srow bs j).flags = 0
theorem t23_size : Tryd.t23.size = 1 := by kernel_rfl
theorem t23_bytes : Tryd.t23.bytes ≤ 200 := by decide +kernel
theorem in_all4 {p : Nat × Obj} {F A B C : MM} (h : p ∈ F) : p ∈ F ++ (A ++ (B ++ C)) := by simp [h]

noncomputable def body14 : Code := Tryd.f14.body.getD .skip
noncomputable def s5 : Code := body14.tl.tl.tl.tl.tl
/-- What is given all along. -/
structure Hs (bs : List UInt8) (ab ao c fb : Nat) (fv vP : Value) (l : List Value) (e : TypeId) (fr : Nat × Nat) (RP : MM) (m : Nat) (w : World) (wide big : Bool) : Prop where
 len : bs.length ≤ 8192
 cap : bs.length ≤ c
 cap2 : c ≤ 9223372036854775807
 at_ : At l ao bs
 all : ao + bs.length ≤ l.length
 pre : PreS bs
 wd : isWide bs = wide
 bg : isBig bs = big
 mle : m ≤ w.heap.size
 rp : RowOk m 41 8 (prgsL bs (hd bs).phnum) (hd bs).phnum vP RP
 has : Has ((ab, .cells l.toArray e fr) :: (fb, fldO fv wide big) :: RP) w
 nd : (((ab, .cells l.toArray e fr) :: (fb, fldO fv wide big) :: RP).map Prod.fst).Nodup
/-- The table of sections is right. -/
structure TabS (bs : List UInt8) : Prop where
 scut : CutOk bs (hd bs).shoff ((hd bs).shnum * (hd bs).shes)
 ss : ∀ i, i < (hd bs).shnum → (srow bs i).Ok
 cp : ∀ i, i < (hd bs).shnum → Comp (srow bs i).flags = 0
def StS2 (bs : List UInt8) (ab ao c fb : Nat) (fv vP : Value) (l : List Value) (e : TypeId) (fr : Nat × Nat) (RP : MM) (m : Nat) (w : World) (wide big : Bool) : Prop := ∀ (N : Nat) (vA v1 : Value) (A R : MM), TabS bs → RowOk w.heap.size 23 1 (atL bs (hd bs).shnum) (hd bs).shnum vA A → RowOk w.heap.size 39 11 (secsL bs (fun _ => []) (hd bs).shnum) (hd bs).shnum v1 R →
 Sc Tryd.prog s5 (bodyPost Tryd.prog Tryd.f14 (FindR bs [(ab, .cells l.toArray e fr)] m w)) 226 w E0 [(0, .slice (some ⟨ab, ao, none⟩) bs.length c), (4, .int .u64 ((hd bs).shnum : Int)), (6, .int .u64 ((hd bs).names : Int)), (8, .pointer (some ⟨w.heap.size, 0, none⟩)), (14, .pointer (some ⟨w.heap.size + 1, 0, none⟩)), (19, vA)] N
  ((w.heap.size + 1, z12O) :: (w.heap.size, fndO bs v1 (.slice none 0 0) vP (.slice none 0 0)) :: (ab, .cells l.toArray e fr) :: (fb, fldO fv wide big) :: (A ++ (R ++ RP)))
theorem rowok0 {m : Nat} {e : TypeId} {k n : Nat} {xs : List Value} {v : Value} {R : MM} (h : RowOk m e k xs n v R) : RowOk 0 e k xs n v R := ⟨h.1, h.2.imp id fun ⟨b, cap, pad, h1, h2, h3, h4, h5, _⟩ => ⟨b, cap, pad, h1, h2, h3, h4, h5, Nat.zero_le _⟩⟩
theorem row_fit2 {i n e t o : Nat} (h : i < n) (ho : o = i * e) (ht : n * e = t) : o + e ≤ t := ht ▸ row_fit h ho
theorem secsL_length {bs : List UInt8} {nm : Nat → List UInt8} {n : Nat} : (secsL bs nm n).length = n * 11 := by
 induction n with
 | zero => rfl
 | succ n ih => simp [secsL, ih, secV]; omega

noncomputable def s4 : Code := body14.tl.tl.tl.tl
theorem s1_loop {bs : List UInt8} {ab ao c fb : Nat} {fv vP : Value} {l : List Value} {e : TypeId} {fr : Nat × Nat} {RP : MM} {m : Nat} {w : World} {wide big : Bool} (sx : Hs bs ab ao c fb fv vP l e fr RP m w wide big) (hnext : StS2 bs ab ao c fb fv vP l e fr RP m w wide big) (hcut : CutOk bs (hd bs).shoff ((hd bs).shnum * (hd bs).shes)) {vR : Value} (hR : 0 < (hd bs).shnum → vR = .slice (some ⟨ab, ao + (hd bs).shoff, none⟩) ((hd bs).shnum * (hd bs).shes) (c - (hd bs).shoff)) (vA : Value) (A : MM) (N : Nat) (hA : RowOk w.heap.size 23 1 (atL bs 0) 0 vA A) :
  Sc Tryd.prog s4 (bodyPost Tryd.prog Tryd.f14 (FindR bs [(ab, .cells l.toArray e fr)] m w)) 226 w E0 [(0, .slice (some ⟨ab, ao, none⟩) bs.length c), (2, .pointer (some ⟨fb, 0, none⟩)), (4, .int .u64 ((hd bs).shnum : Int)), (5, .int .u64 ((hd bs).shes : Int)), (6, .int .u64 ((hd bs).names : Int)), (8, .pointer (some ⟨w.heap.size, 0, none⟩)), (14, .pointer (some ⟨w.heap.size + 1, 0, none⟩)), (17, vR), (19, vA)] N ((w.heap.size + 1, z12O) :: (w.heap.size, fndO bs (.slice none 0 0) (.slice none 0 0) vP (.slice none 0 0)) :: (ab, .cells l.toArray e fr) :: (fb, fldO fv wide big) :: (A ++ ([] ++ RP))) := by
 obtain ⟨hl1, hl2, hl3, hl4, hl5, hl6, hl7, hl8, hl9, hl10, hl11⟩ := hd_lt bs
 have blen := sx.len
 have hcap := sx.cap
 have hcap2 := sx.cap2
 have hshe : 0 < (hd bs).shnum → wd wide 40 64 ≤ (hd bs).shes := fun h => sx.wd ▸ sx.pre.head.she h
 refine sc_seq ?_
 refine scR ?_
 refine sqA rfl rfl ?_
 refine sqZ ?_
 refine sc_block ?_
 refine sc_loop (ι := L0) (fun z => [(0, .slice (some ⟨ab, ao, none⟩) bs.length c), (2, .pointer (some ⟨fb, 0, none⟩)), (4, .int .u64 ((hd bs).shnum : Int)), (5, .int .u64 ((hd bs).shes : Int)), (6, .int .u64 ((hd bs).names : Int)), (8, .pointer (some ⟨w.heap.size, 0, none⟩)), (14, .pointer (some ⟨w.heap.size + 1, 0, none⟩)), (17, vR), (19, z.vA), (20, .int .u64 (z.i : Int))]) (fun z => z.N) (fun z => (w.heap.size + 1, z12O) :: (w.heap.size, fndO bs z.v1 (.slice none 0 0) vP (.slice none 0 0)) :: (ab, .cells l.toArray e fr) :: (fb, fldO fv wide big) :: (z.A ++ (z.R ++ RP))) (L0F bs w.heap.size) (fun z => (hd bs).shnum - z.i) ⟨0, N, vA, A, .slice none 0 0, []⟩ ⟨⟨Nat.zero_le _, hA, ⟨rfl, .inl ⟨rfl, rfl, rfl⟩⟩, fun j hj => absurd hj (Nat.not_lt_zero _)⟩, ⟨rfl, rfl, rfl, rfl, rfl, rfl, rfl, rfl, rfl, rfl, trivial⟩, rfl, fun _ h => h⟩ ?_
 clear hA
 rintro ⟨i, N, vA, A, v1, R⟩ ⟨hz1, hra, hrr, hz4⟩
 dsimp only at hz1 hra hrr hz4
 change Sc _ _ _ _ _ _ [(0, .slice (some ⟨ab, ao, none⟩) bs.length c), (2, .pointer (some ⟨fb, 0, none⟩)), (4, .int .u64 ((hd bs).shnum : Int)), (5, .int .u64 ((hd bs).shes : Int)), (6, .int .u64 ((hd bs).names : Int)), (8, .pointer (some ⟨w.heap.size, 0, none⟩)), (14, .pointer (some ⟨w.heap.size + 1, 0, none⟩)), (17, vR), (19, vA), (20, .int .u64 (i : Int))] N ((w.heap.size + 1, z12O) :: (w.heap.size, fndO bs v1 (.slice none 0 0) vP (.slice none 0 0)) :: (ab, .cells l.toArray e fr) :: (fb, fldO fv wide big) :: (A ++ (R ++ RP)))
 refine sc_known fun hnd1 hge1 hlt1 => ?_
 refine sc_seq ?_
 refine scR ?_
 iterate 2 refine sqM rfl rfl ?_
 refine sq_split (q_lss rfl rfl) rfl (fun h6_2 => ?_) (fun h6_2 => ?_)
 ·
  have hin : i < (hd bs).shnum := by omega
  obtain rfl := hR (by omega)
  obtain ⟨off, hoff⟩ : ∃ off, off = i * (hd bs).shes := ⟨_, rfl⟩
  obtain ⟨tot, htot⟩ : ∃ tot, (hd bs).shnum * (hd bs).shes = tot := ⟨_, rfl⟩
  have hfit := row_fit2 hin hoff htot
  have hes := hshe (by omega)
  have hw1 : wd wide 40 64 ≤ 64 := by cases wide <;> decide
  have hw2 : 40 ≤ wd wide 40 64 := by cases wide <;> decide
  have hcut2 : (hd bs).shoff + tot ≤ bs.length := by
   rw [htot] at hcut
   rcases hcut with h | h <;> omega
  have hsr : srowAt big wide bs ((hd bs).shoff + off) = srow bs i := by rw [srow, sx.bg, sx.wd, hoff]
  have slt : (srow bs i).Lt := srowAt_lt _ _ _ _
  obtain ⟨q1, q2, q3, q4, q5, q6, q7, q8, q9, q10⟩ := slt
  refine sqK [0, 2, 4, 5, 6, 8, 14, 17, 19, 20, 53] rfl ?_
  refine sc_cond_t rfl ?_
  refine scS ?_
  refine scK [0, 2, 4, 5, 6, 8, 14, 17, 19, 20] rfl ?_
  refine sc_seq ?_
  refine sc_block ?_
  refine sc_seq ?_
  refine sc_mid (ι := Nat × Nat) (fun z => [(0, .slice (some ⟨ab, ao, none⟩) bs.length c), (2, .pointer (some ⟨fb, 0, none⟩)), (4, .int .u64 ((hd bs).shnum : Int)), (5, .int .u64 ((hd bs).shes : Int)), (6, .int .u64 ((hd bs).names : Int)), (8, .pointer (some ⟨w.heap.size, 0, none⟩)), (14, .pointer (some ⟨w.heap.size + 1, 0, none⟩)), (17, .slice (some ⟨ab, ao + (hd bs).shoff, none⟩) ((hd bs).shnum * (hd bs).shes) (c - (hd bs).shoff)), (19, vA), (20, .int .u64 (i : Int)), (21, .int .u64 (((srow bs i).name : Nat) : Int)), (22, .pointer (some ⟨z.1, 0, none⟩))]) (fun z => z.2) (fun z => (z.1, .cells (secV [] (srow bs i)).toArray 39 (0, 0)) :: (w.heap.size + 1, z12O) :: (w.heap.size, fndO bs v1 (.slice none 0 0) vP (.slice none 0 0)) :: (ab, .cells l.toArray e fr) :: (fb, fldO fv wide big) :: (A ++ (R ++ RP))) (fun z => w.heap.size ≤ z.1 ∧ N ≤ z.2) ?_ ?_
  ·
   have _tok := trivial
   refine sc_tree (.q 0 (.q 1 (.q 2 (.q 3 (.q 4 (.q 5 (.q 6 (.q 7 (.q 8 (.q 9 (.q 10 (.q 11 (.q 12 (.q 13 (.m2 19 14 (.m 14 (.m 15 (.q 16 (.q 17 (.q 18 (.q 20 (.m 21 .nil))))))) (.m2 19 15 (.m 15 (.q 16 (.q 17 (.q 18 (.q 20 (.m 21 .nil)))))) (.q 16 (.q 17 (.q 18 (.m 19 (.q 20 (.m 21 .nil)))))))))))))))))))))) [(fb, fldO fv wide big)] mixed (by kernel_rfl) (by kernel_rfl) (fun _ h => by simp at h; simp [h]) ?_
   iterate 3 refine dt_q rfl (q_move rfl) ?_
   refine dt_q rfl (q_mul (a := (i : Int)) (b := ((hd bs).shes : Int)) (r := ((off : Nat) : Int)) rfl rfl (w_u64e (by rw [hoff, Int.natCast_mul]) (by omega) (by omega))) ?_
   refine dt_q rfl (q_slice_k (l := off) (j := ao + ((hd bs).shoff + off)) rfl rfl Tryd.runUnderlying22 Tryd.sizeOf5 (by omega) (by omega) (by omega)) ?_
   refine dt_q rfl (q_move rfl) ?_
   refine dt_q rfl (q_nil rfl) ?_
   refine dt_q rfl (q_fieldj (j := 1) rfl Tryd.runUnderlying45 rfl Tryd.sizeOf4 rfl) ?_
   refine dt_q rfl (q_load1 rfl Tryd.isAgg4 (i := 0) rfl rfl) ?_
   refine dt_q rfl (q_move rfl) ?_
   refine dt_q rfl (q_nil rfl) ?_
   refine dt_q rfl (q_fieldj (j := 2) rfl Tryd.runUnderlying45 rfl Tryd.sizeOf4 rfl) ?_
   refine dt_q rfl (q_load1 rfl Tryd.isAgg4 (i := 0) rfl rfl) ?_
   refine dt_q rfl (q_build (vs := [(0, _), (1, _), (2, _)]) (cs := #[.slice (some ⟨ab, ao + ((hd bs).shoff + off), none⟩) ((hd bs).shnum * (hd bs).shes - off) (c - (hd bs).shoff - off), .bool wide, .bool big]) ⟨rfl, rfl, rfl, rfl, rfl, rfl, trivial⟩ (fun _ => by kernel_rfl)) ?_
   refine dt_two ?_ ?_
   ·
    have _tok := trivial
    refine dt_m rfl (m_alloc (l := [.string ⟨#[]⟩, .int .i64 0, .int .i64 0, .int .u64 0, .int .u64 0, .int .u64 0, .int .i64 0, .int .i64 0, .int .u64 0, .int .u64 0, .int .u64 0]) Tryd.zeroValue39 rfl) (fun _ _ p hp => by simp at hp; simp [hp]) (fun _ _ => ?_)
    refine dt_one ?_
    refine dt_m rfl (m_box rfl rfl) (fun _ _ p hp => by simp at hp; simp [hp]) (fun _ _ => ?_)
    refine dt_one ?_
    refine dt_m rfl (part_inv (ab := ab) (l := l) (e := e) (fr := fr) (ao := ao) (p := (hd bs).shoff + off) (bs := bs) rfl (List.Perm.refl _) (by simp) (by omega) sx.at_ (by omega) (by omega) (by omega) (by omega)) (fun _ _ p hp => by simp at hp; simp [hp]) (fun n8 hn8 => ?_)
    rw [hsr]
    refine dt_q rfl (q_move rfl) ?_
    iterate 2 refine dt_q rfl (q_extract rfl rfl) ?_
    refine dt_q rfl (q_assign rfl) ?_
    refine dt_one ?_
    refine dt_m0l rfl (m_stores (i := 0) (vs := secV [] (srow bs i)) (l' := secV [] (srow bs i)) rfl rfl Tryd.sizeOf39 rfl rfl rfl (by simp) rfl rfl (by intro h; omega)) (by kernel_rfl) (fun _ _ => ?_)
    refine dt_nil ?_
    exact se_mid (_, _) ⟨by dsimp only; omega, by dsimp only; omega⟩ ⟨rfl, rfl, rfl, rfl, rfl, rfl, rfl, rfl, rfl, rfl, rfl, rfl, trivial⟩ (fun _ h => h)
   refine dt_m rfl (m_box rfl rfl) (fun _ _ p hp => by simp at hp; simp [hp]) (fun _ _ => ?_)
   refine dt_two ?_ ?_
   ·
    have _tok := trivial
    refine dt_m rfl (m_alloc (l := [.string ⟨#[]⟩, .int .i64 0, .int .i64 0, .int .u64 0, .int .u64 0, .int .u64 0, .int .i64 0, .int .i64 0, .int .u64 0, .int .u64 0, .int .u64 0]) Tryd.zeroValue39 rfl) (fun _ _ p hp => by simp at hp; simp [hp]) (fun _ _ => ?_)
    refine dt_one ?_
    refine dt_m rfl (part_inv (ab := ab) (l := l) (e := e) (fr := fr) (ao := ao) (p := (hd bs).shoff + off) (bs := bs) rfl (List.Perm.swap _ _ _) (by simp) (by omega) sx.at_ (by omega) (by omega) (by omega) (by omega)) (fun _ _ p hp => by simp at hp; simp [hp]) (fun n8 hn8 => ?_)
    rw [hsr]
    refine dt_q rfl (q_move rfl) ?_
    iterate 2 refine dt_q rfl (q_extract rfl rfl) ?_
    refine dt_q rfl (q_assign rfl) ?_
    refine dt_one ?_
    refine dt_m0l rfl (m_stores (i := 0) (vs := secV [] (srow bs i)) (l' := secV [] (srow bs i)) rfl rfl Tryd.sizeOf39 rfl rfl rfl (by simp) rfl rfl (by intro h; omega)) (by kernel_rfl) (fun _ _ => ?_)
    refine dt_nil ?_
    exact se_mid (_, _) ⟨by dsimp only; omega, by dsimp only; omega⟩ ⟨rfl, rfl, rfl, rfl, rfl, rfl, rfl, rfl, rfl, rfl, rfl, rfl, trivial⟩ (fun _ h => h)
   refine dt_m rfl (part_inv (ab := ab) (l := l) (e := e) (fr := fr) (ao := ao) (p := (hd bs).shoff + off) (bs := bs) rfl (List.Perm.refl _) (by simp) (by omega) sx.at_ (by omega) (by omega) (by omega) (by omega)) (fun _ _ p hp => by simp at hp; simp [hp]) (fun n8 hn8 => ?_)
   rw [hsr]
   refine dt_q rfl (q_move rfl) ?_
   iterate 2 refine dt_q rfl (q_extract rfl rfl) ?_
   refine dt_one ?_
   refine dt_m rfl (m_alloc (l := [.string ⟨#[]⟩, .int .i64 0, .int .i64 0, .int .u64 0, .int .u64 0, .int .u64 0, .int .i64 0, .int .i64 0, .int .u64 0, .int .u64 0, .int .u64 0]) Tryd.zeroValue39 rfl) (fun _ _ p hp => by simp at hp; simp [hp]) (fun _ _ => ?_)
   refine dt_q rfl (q_assign rfl) ?_
   refine dt_one ?_
   refine dt_m0l rfl (m_stores (i := 0) (vs := secV [] (srow bs i)) (l' := secV [] (srow bs i)) rfl rfl Tryd.sizeOf39 rfl rfl rfl (by simp) rfl rfl (by intro h; omega)) (by kernel_rfl) (fun _ _ => ?_)
   refine dt_nil ?_
   exact se_mid (_, _) ⟨by dsimp only; omega, by dsimp only; omega⟩ ⟨rfl, rfl, rfl, rfl, rfl, rfl, rfl, rfl, rfl, rfl, rfl, rfl, trivial⟩ (fun _ h => h)
  rintro ⟨k, N8⟩ ⟨hk1, hk2⟩
  dsimp only at hk1 hk2
  change Se _ _ _ _ _ _ N8 _
  have hge8 : w.heap.size ≤ N8 := by omega
  refine se_seq ?_
  refine sc_seq ?_
  refine scR ?_
  refine sq_q (q_fieldj (j := 4) rfl Tryd.runUnderlying39 rfl Tryd.sizeOf23 rfl) rfl ?_
  refine sq_q (q_load1 rfl Tryd.isAgg23 (i := 0) rfl rfl) rfl ?_
  refine sq_split (q_call (args1 rfl) Tryd.call11 (fun w hw => signed11)) rfl (fun h9_2 => ?_) (fun h9_2 => ?_)
  ·
   have _tok := trivial
   refine sq_q (q_not' rfl) rfl ?_
   refine sqM rfl rfl ?_
   refine sq_gy rfl rfl rfl ?_
   refine sq_q (q_fieldj (j := 10) rfl Tryd.runUnderlying39 rfl Tryd.sizeOf23 rfl) rfl ?_
   refine sq_gy rfl rfl rfl ?_
   refine sq_q (q_load1 rfl Tryd.isAgg23 (i := 0) rfl rfl) rfl ?_
   refine sq_gy rfl rfl rfl ?_
   refine sq_split (q_call (args1 rfl) Tryd.call11 (fun w hw => signed11)) rfl (fun h9_7 => ?_) (fun h9_7 => ?_)
   ·
    have hiok : (srow bs i).Ok := ⟨h9_2, h9_7⟩
    refine sq_gy rfl rfl rfl ?_
    refine sq_q (q_not' rfl) rfl ?_
    refine sqF rfl rfl rfl ?_
    refine sqK [0, 2, 4, 5, 6, 8, 14, 17, 19, 20, 21, 22, 84] rfl ?_
    refine sc_cond_f rfl ?_
    refine scS ?_
    refine scK [0, 2, 4, 5, 6, 8, 14, 17, 19, 20, 21, 22] rfl ?_
    refine sc_seq ?_
    refine scR ?_
    refine sq_q (q_fieldj (j := 2) rfl Tryd.runUnderlying39 rfl Tryd.sizeOf3 rfl) rfl ?_
    refine sq_q (q_load1 rfl Tryd.isAgg3 (i := 0) rfl rfl) rfl ?_
    refine sq_q (q_and rfl rfl (comp64 q3)) rfl ?_
    refine sq_split (q_neq rfl rfl) rfl (fun h11_3 => ?_) (fun h11_3 => ?_)
    ·
     have _tok := trivial
     refine sqK [0, 2, 4, 5, 6, 8, 14, 17, 19, 20, 21, 22, 89] rfl ?_
     refine sc_cond_t rfl ?_
     refine scR ?_
     refine sq_q (q_loadK rfl Tryd.isAgg30 Tryd.sizeOf30 (i := 2) (vs := [.int .i64 ((bv bs 4 : Nat) : Int), .int .i64 ((bv bs 5 : Nat) : Int), .int .i64 ((bv bs 6 : Nat) : Int), .int .i64 ((bv bs 7 : Nat) : Int), .int .i64 ((bv bs 8 : Nat) : Int), .int .i64 ((hd bs).type : Int), .int .i64 ((hd bs).machine : Int), .int .u64 ((hd bs).entry : Int), v1, .slice none 0 0, vP, .slice none 0 0]) rfl rfl) rfl ?_
     refine sq_m0 (m_stores (i := 1) (vs := [.int .i64 ((bv bs 4 : Nat) : Int), .int .i64 ((bv bs 5 : Nat) : Int), .int .i64 ((bv bs 6 : Nat) : Int), .int .i64 ((bv bs 7 : Nat) : Int), .int .i64 ((bv bs 8 : Nat) : Int), .int .i64 ((hd bs).type : Int), .int .i64 ((hd bs).machine : Int), .int .u64 ((hd bs).entry : Int), v1, .slice none 0 0, vP, .slice none 0 0]) (l' := [.int .i64 ((bv bs 4 : Nat) : Int), .int .i64 ((bv bs 5 : Nat) : Int), .int .i64 ((bv bs 6 : Nat) : Int), .int .i64 ((bv bs 7 : Nat) : Int), .int .i64 ((bv bs 8 : Nat) : Int), .int .i64 ((hd bs).type : Int), .int .i64 ((hd bs).machine : Int), .int .u64 ((hd bs).entry : Int), v1, .slice none 0 0, vP, .slice none 0 0]) rfl rfl Tryd.sizeOf30 rfl (all12 hrr.one rfl sx.rp.one rfl) rfl (by simp) rfl rfl (by intro h; omega)) (fun _ _ => ?_)
     iterate 2 refine sqA rfl rfl ?_
     refine sqK [14, 15, 16] rfl ?_
     refine sc_ret ?_
     refine se_then_ret ?_
     refine se_block_ret ?_
     iterate 2 refine se_then_ret ?_
     refine se_block_ret ?_
     refine se_then_ret ?_
     exact se_end (resc2 Tryd.results14 rfl rfl rfl Tryd.isAgg30 Tryd.sizeOf30 (i := 1) rfl rfl) (fun w' hw => .inl ⟨_, _, rfl, rfl, (all12 hrr.one rfl sx.rp.one rfl), hw.eff⟩)
    have hcp : Comp (srow bs i).flags = 0 := by omega
    refine sqK [0, 2, 4, 5, 6, 8, 14, 17, 19, 20, 21, 22, 89] rfl ?_
    refine sc_cond_f rfl ?_
    refine scS ?_
    refine scK [0, 2, 4, 5, 6, 8, 14, 17, 19, 20, 21, 22] rfl ?_
    refine sc_mid (ι := L0) (fun z => [(0, .slice (some ⟨ab, ao, none⟩) bs.length c), (2, .pointer (some ⟨fb, 0, none⟩)), (4, .int .u64 ((hd bs).shnum : Int)), (5, .int .u64 ((hd bs).shes : Int)), (6, .int .u64 ((hd bs).names : Int)), (8, .pointer (some ⟨w.heap.size, 0, none⟩)), (14, .pointer (some ⟨w.heap.size + 1, 0, none⟩)), (17, .slice (some ⟨ab, ao + (hd bs).shoff, none⟩) ((hd bs).shnum * (hd bs).shes) (c - (hd bs).shoff)), (19, z.vA), (20, .int .u64 ((i : Nat) : Int))]) (fun z => z.N) (fun z => (w.heap.size + 1, z12O) :: (w.heap.size, fndO bs z.v1 (.slice none 0 0) vP (.slice none 0 0)) :: (ab, .cells l.toArray e fr) :: (fb, fldO fv wide big) :: (z.A ++ (z.R ++ RP))) (fun z => RowOk w.heap.size 23 1 (atL bs i ++ [.int .u64 (((srow bs i).name : Nat) : Int)]) (i + 1) z.vA z.A ∧ RowOk w.heap.size 39 11 (secsL bs (fun _ => []) (i + 1)) (i + 1) z.v1 z.R) ?_ ?_
    ·
     have _tok := trivial
     refine sc_tree (.q 0 (.q 1 (.q 4 (.q 5 (.q 6 (.m2 2 7 (.m2 3 7 (.m 7 (.m 8 (.q 9 (.q 10 (.m 11 .nil))))) (.m2 3 8 (.m 8 (.q 9 (.q 10 (.m 11 .nil)))) (.m 3 (.q 9 (.q 10 (.m 11 .nil)))))) (.m2 2 8 (.m2 3 8 (.m 8 (.q 9 (.q 10 (.m 11 .nil)))) (.m 3 (.q 9 (.q 10 (.m 11 .nil))))) (.m 2 (.m 3 (.q 9 (.q 10 (.m 11 .nil)))))))))))) [(w.heap.size, fndO bs v1 (.slice none 0 0) vP (.slice none 0 0)), (k, secB (srow bs i))] mixed (by kernel_rfl) (by kernel_rfl) (fun _ h => by simp at h; rcases h with h | h <;> simp [h]) ?_
     iterate 2 refine dt_q rfl (q_move rfl) ?_
     refine dt_q rfl (q_fieldj (j := 8) rfl Tryd.runUnderlying30 rfl Tryd.sizeOf26 rfl) ?_
     refine dt_q rfl (q_load1 rfl Tryd.isAgg26 (i := 0) rfl rfl) ?_
     refine dt_q rfl ((q_loadK rfl Tryd.isAgg39 Tryd.sizeOf39 (i := 1) rfl rfl)) ?_
     refine dt_two ?_ ?_
     ·
      have _tok := trivial
      refine dt_m rfl (m_lit (vs := [(0, _)]) ⟨rfl, rfl, trivial⟩ (e := 23) (l := [.int .u64 (((srow bs i).name : Nat) : Int)]) (fun w => by kernel_rfl)) (fun _ _ p hp => by simp at hp; rcases hp with hp | hp <;> simp [hp]) (fun _ _ => ?_)
      refine dt_two ?_ ?_
      ·
       have _tok := trivial
       refine dt_m rfl (m_app_any (i := Tryd.t23) (z := .int .u64 0) (k := 1) (R := A) (rest := ([(k, secB (srow bs i)), (w.heap.size + 1, z12O), (w.heap.size, fndO bs v1 (.slice none 0 0) vP (.slice none 0 0)), (ab, .cells l.toArray e fr), (fb, fldO fv wide big)] ++ (R ++ RP))) (news := [.int .u64 (((srow bs i).name : Nat) : Int)]) (out := fun R' => [(k, secB (srow bs i)), (w.heap.size + 1, z12O), (w.heap.size, fndO bs v1 (.slice none 0 0) vP (.slice none 0 0)), (ab, .cells l.toArray e fr), (fb, fldO fv wide big)] ++ (R' ++ (R ++ RP))) hra rfl rfl (.cons _ (List.perm_append_comm_assoc [(k, secB (srow bs i)), (w.heap.size + 1, z12O), (w.heap.size, fndO bs v1 (.slice none 0 0) vP (.slice none 0 0)), (ab, .cells l.toArray e fr), (fb, fldO fv wide big)] A (R ++ RP))) (fun R' => List.perm_append_comm_assoc R' _ (R ++ RP)) Tryd.underlying109 (by kernel_rfl) (by kernel_rfl) t23_size (by kernel_rfl) rfl rfl (by omega) (bytes_fit (by omega) t23_bytes) (by intro b h1 h2; omega)) (fun _ _ p hp => by simp at hp; rcases hp with hp | hp <;> simp [hp]) (fun y1 hy1 => ?_)
       refine dt_one ?_
       refine dt_m rfl (m_lit (vs := [(0, _)]) ⟨rfl, rfl, trivial⟩ (e := 39) (l := secV [] (srow bs i)) (fun w => by kernel_rfl)) (fun _ _ p hp => by simp at hp; rcases hp with hp | hp <;> simp [hp]) (fun _ _ => ?_)
       refine dt_one ?_
       refine dt_m rfl (m_app_any (i := Tryd.t39) (z := (.agg #[.string ⟨#[]⟩, .int .i64 0, .int .i64 0, .int .u64 0, .int .u64 0, .int .u64 0, .int .i64 0, .int .i64 0, .int .u64 0, .int .u64 0, .int .u64 0])) (k := 11) (R := R) (rest := ([(k, secB (srow bs i)), (w.heap.size + 1, z12O), (w.heap.size, fndO bs v1 (.slice none 0 0) vP (.slice none 0 0)), (ab, .cells l.toArray e fr), (fb, fldO fv wide big)] ++ (y1.R ++ RP))) (news := secV [] (srow bs i)) (out := fun R' => [(k, secB (srow bs i)), (w.heap.size + 1, z12O), (w.heap.size, fndO bs v1 (.slice none 0 0) vP (.slice none 0 0)), (ab, .cells l.toArray e fr), (fb, fldO fv wide big)] ++ (y1.R ++ (R' ++ RP))) hrr rfl rfl (.cons _ (permA (R := R) (F := [(k, secB (srow bs i)), (w.heap.size + 1, z12O), (w.heap.size, fndO bs v1 (.slice none 0 0) vP (.slice none 0 0)), (ab, .cells l.toArray e fr), (fb, fldO fv wide big)]) (R1 := y1.R) (W := RP)).symm) (fun R' => permA) Tryd.underlying26 (by kernel_rfl) (by kernel_rfl) t39_size (by kernel_rfl) rfl rfl (by omega) (bytes_fit (by omega) t39_bytes) (by intro b h1 h2; omega)) (fun _ _ p hp => by simp at hp; rcases hp with hp | hp <;> simp [hp]) (fun y2 hy2 => ?_)
       refine dt_q rfl (q_assign rfl) ?_
       refine dt_q rfl (q_fieldj (j := 8) rfl Tryd.runUnderlying30 rfl Tryd.sizeOf26 rfl) ?_
       refine dt_one ?_
       refine dt_m0l rfl (m_store rfl rfl Tryd.sizeOf26 hy2.2.one (i := 2) rfl rfl rfl (by intro h; omega)) (by kernel_rfl) (fun _ _ => ?_)
       refine dt_nil ?_
       exact se_mid ⟨i, _, _, _, _, _⟩ ⟨hy1.2, hy2.2⟩ ⟨rfl, rfl, rfl, rfl, rfl, rfl, rfl, rfl, rfl, rfl, trivial⟩ (fun _ h => h.sublist (.cons _ (List.Sublist.refl _)))
      refine dt_m rfl (m_lit (vs := [(0, _)]) ⟨rfl, rfl, trivial⟩ (e := 39) (l := secV [] (srow bs i)) (fun w => by kernel_rfl)) (fun _ _ p hp => by simp at hp; rcases hp with hp | hp <;> simp [hp]) (fun _ _ => ?_)
      refine dt_two ?_ ?_
      ·
       have _tok := trivial
       refine dt_m rfl (m_app_any (i := Tryd.t23) (z := .int .u64 0) (k := 1) (R := A) (rest := ((_ :: [(k, secB (srow bs i)), (w.heap.size + 1, z12O), (w.heap.size, fndO bs v1 (.slice none 0 0) vP (.slice none 0 0)), (ab, .cells l.toArray e fr), (fb, fldO fv wide big)]) ++ (R ++ RP))) (news := [.int .u64 (((srow bs i).name : Nat) : Int)]) (out := fun R' => (_ :: [(k, secB (srow bs i)), (w.heap.size + 1, z12O), (w.heap.size, fndO bs v1 (.slice none 0 0) vP (.slice none 0 0)), (ab, .cells l.toArray e fr), (fb, fldO fv wide big)]) ++ (R' ++ (R ++ RP))) hra rfl rfl ((List.Perm.swap _ _ _).trans (.cons _ (List.perm_append_comm_assoc (_ :: [(k, secB (srow bs i)), (w.heap.size + 1, z12O), (w.heap.size, fndO bs v1 (.slice none 0 0) vP (.slice none 0 0)), (ab, .cells l.toArray e fr), (fb, fldO fv wide big)]) A (R ++ RP)))) (fun R' => List.perm_append_comm_assoc R' _ (R ++ RP)) Tryd.underlying109 (by kernel_rfl) (by kernel_rfl) t23_size (by kernel_rfl) rfl rfl (by omega) (bytes_fit (by omega) t23_bytes) (by intro b h1 h2; omega)) (fun _ _ p hp => by simp at hp; rcases hp with hp | hp <;> simp [hp]) (fun y1 hy1 => ?_)
       refine dt_one ?_
       refine dt_m rfl (m_app_any (i := Tryd.t39) (z := (.agg #[.string ⟨#[]⟩, .int .i64 0, .int .i64 0, .int .u64 0, .int .u64 0, .int .u64 0, .int .i64 0, .int .i64 0, .int .u64 0, .int .u64 0, .int .u64 0])) (k := 11) (R := R) (rest := ([(k, secB (srow bs i)), (w.heap.size + 1, z12O), (w.heap.size, fndO bs v1 (.slice none 0 0) vP (.slice none 0 0)), (ab, .cells l.toArray e fr), (fb, fldO fv wide big)] ++ (y1.R ++ RP))) (news := secV [] (srow bs i)) (out := fun R' => [(k, secB (srow bs i)), (w.heap.size + 1, z12O), (w.heap.size, fndO bs v1 (.slice none 0 0) vP (.slice none 0 0)), (ab, .cells l.toArray e fr), (fb, fldO fv wide big)] ++ (y1.R ++ (R' ++ RP))) hrr rfl rfl (.cons _ (permA (R := R) (F := [(k, secB (srow bs i)), (w.heap.size + 1, z12O), (w.heap.size, fndO bs v1 (.slice none 0 0) vP (.slice none 0 0)), (ab, .cells l.toArray e fr), (fb, fldO fv wide big)]) (R1 := y1.R) (W := RP)).symm) (fun R' => permA) Tryd.underlying26 (by kernel_rfl) (by kernel_rfl) t39_size (by kernel_rfl) rfl rfl (by omega) (bytes_fit (by omega) t39_bytes) (by intro b h1 h2; omega)) (fun _ _ p hp => by simp at hp; rcases hp with hp | hp <;> simp [hp]) (fun y2 hy2 => ?_)
       refine dt_q rfl (q_assign rfl) ?_
       refine dt_q rfl (q_fieldj (j := 8) rfl Tryd.runUnderlying30 rfl Tryd.sizeOf26 rfl) ?_
       refine dt_one ?_
       refine dt_m0l rfl (m_store rfl rfl Tryd.sizeOf26 hy2.2.one (i := 2) rfl rfl rfl (by intro h; omega)) (by kernel_rfl) (fun _ _ => ?_)
       refine dt_nil ?_
       exact se_mid ⟨i, _, _, _, _, _⟩ ⟨hy1.2, hy2.2⟩ ⟨rfl, rfl, rfl, rfl, rfl, rfl, rfl, rfl, rfl, rfl, trivial⟩ (fun _ h => h.sublist (.cons _ (List.Sublist.refl _)))
      refine dt_m rfl (m_app_any (i := Tryd.t39) (z := (.agg #[.string ⟨#[]⟩, .int .i64 0, .int .i64 0, .int .u64 0, .int .u64 0, .int .u64 0, .int .i64 0, .int .i64 0, .int .u64 0, .int .u64 0, .int .u64 0])) (k := 11) (R := R) (rest := ((_ :: [(k, secB (srow bs i)), (w.heap.size + 1, z12O), (w.heap.size, fndO bs v1 (.slice none 0 0) vP (.slice none 0 0)), (ab, .cells l.toArray e fr), (fb, fldO fv wide big)]) ++ (A ++ RP))) (news := secV [] (srow bs i)) (out := fun R' => (_ :: [(k, secB (srow bs i)), (w.heap.size + 1, z12O), (w.heap.size, fndO bs v1 (.slice none 0 0) vP (.slice none 0 0)), (ab, .cells l.toArray e fr), (fb, fldO fv wide big)]) ++ (A ++ (R' ++ RP))) hrr rfl rfl (.cons _ (permA (R := R) (F := (_ :: [(k, secB (srow bs i)), (w.heap.size + 1, z12O), (w.heap.size, fndO bs v1 (.slice none 0 0) vP (.slice none 0 0)), (ab, .cells l.toArray e fr), (fb, fldO fv wide big)])) (R1 := A) (W := RP)).symm) (fun R' => permA) Tryd.underlying26 (by kernel_rfl) (by kernel_rfl) t39_size (by kernel_rfl) rfl rfl (by omega) (bytes_fit (by omega) t39_bytes) (by intro b h1 h2; omega)) (fun _ _ p hp => by simp at hp; rcases hp with hp | hp <;> simp [hp]) (fun y2 hy2 => ?_)
      refine dt_one ?_
      refine dt_m rfl (m_app_any (i := Tryd.t23) (z := .int .u64 0) (k := 1) (R := A) (rest := ([(k, secB (srow bs i)), (w.heap.size + 1, z12O), (w.heap.size, fndO bs v1 (.slice none 0 0) vP (.slice none 0 0)), (ab, .cells l.toArray e fr), (fb, fldO fv wide big)] ++ (y2.R ++ RP))) (news := [.int .u64 (((srow bs i).name : Nat) : Int)]) (out := fun R' => [(k, secB (srow bs i)), (w.heap.size + 1, z12O), (w.heap.size, fndO bs v1 (.slice none 0 0) vP (.slice none 0 0)), (ab, .cells l.toArray e fr), (fb, fldO fv wide big)] ++ (R' ++ (y2.R ++ RP))) hra rfl rfl (.cons _ (List.perm_append_comm_assoc [(k, secB (srow bs i)), (w.heap.size + 1, z12O), (w.heap.size, fndO bs v1 (.slice none 0 0) vP (.slice none 0 0)), (ab, .cells l.toArray e fr), (fb, fldO fv wide big)] A (y2.R ++ RP))) (fun R' => List.perm_append_comm_assoc R' _ (y2.R ++ RP)) Tryd.underlying109 (by kernel_rfl) (by kernel_rfl) t23_size (by kernel_rfl) rfl rfl (by omega) (bytes_fit (by omega) t23_bytes) (by intro b h1 h2; omega)) (fun _ _ p hp => by simp at hp; rcases hp with hp | hp <;> simp [hp]) (fun y1 hy1 => ?_)
      refine dt_q rfl (q_assign rfl) ?_
      refine dt_q rfl (q_fieldj (j := 8) rfl Tryd.runUnderlying30 rfl Tryd.sizeOf26 rfl) ?_
      refine dt_one ?_
      refine dt_m0l rfl (m_store rfl rfl Tryd.sizeOf26 hy2.2.one (i := 2) rfl rfl rfl (by intro h; omega)) (by kernel_rfl) (fun _ _ => ?_)
      refine dt_nil ?_
      exact se_mid ⟨i, _, _, _, _, _⟩ ⟨hy1.2, hy2.2⟩ ⟨rfl, rfl, rfl, rfl, rfl, rfl, rfl, rfl, rfl, rfl, trivial⟩ (fun _ h => h.sublist (.cons _ (List.Sublist.refl _)))
     refine dt_m rfl (m_lit (vs := [(0, _)]) ⟨rfl, rfl, trivial⟩ (e := 39) (l := secV [] (srow bs i)) (fun w => by kernel_rfl)) (fun _ _ p hp => by simp at hp; rcases hp with hp | hp <;> simp [hp]) (fun _ _ => ?_)
     refine dt_two ?_ ?_
     ·
      have _tok := trivial
      refine dt_m rfl (m_lit (vs := [(0, _)]) ⟨rfl, rfl, trivial⟩ (e := 23) (l := [.int .u64 (((srow bs i).name : Nat) : Int)]) (fun w => by kernel_rfl)) (fun _ _ p hp => by simp at hp; rcases hp with hp | hp <;> simp [hp]) (fun _ _ => ?_)
      refine dt_two ?_ ?_
      ·
       have _tok := trivial
       refine dt_m rfl (m_app_any (i := Tryd.t23) (z := .int .u64 0) (k := 1) (R := A) (rest := ((_ :: [(k, secB (srow bs i)), (w.heap.size + 1, z12O), (w.heap.size, fndO bs v1 (.slice none 0 0) vP (.slice none 0 0)), (ab, .cells l.toArray e fr), (fb, fldO fv wide big)]) ++ (R ++ RP))) (news := [.int .u64 (((srow bs i).name : Nat) : Int)]) (out := fun R' => (_ :: [(k, secB (srow bs i)), (w.heap.size + 1, z12O), (w.heap.size, fndO bs v1 (.slice none 0 0) vP (.slice none 0 0)), (ab, .cells l.toArray e fr), (fb, fldO fv wide big)]) ++ (R' ++ (R ++ RP))) hra rfl rfl (.cons _ (List.perm_append_comm_assoc (_ :: [(k, secB (srow bs i)), (w.heap.size + 1, z12O), (w.heap.size, fndO bs v1 (.slice none 0 0) vP (.slice none 0 0)), (ab, .cells l.toArray e fr), (fb, fldO fv wide big)]) A (R ++ RP))) (fun R' => List.perm_append_comm_assoc R' _ (R ++ RP)) Tryd.underlying109 (by kernel_rfl) (by kernel_rfl) t23_size (by kernel_rfl) rfl rfl (by omega) (bytes_fit (by omega) t23_bytes) (by intro b h1 h2; omega)) (fun _ _ p hp => by simp at hp; rcases hp with hp | hp <;> simp [hp]) (fun y1 hy1 => ?_)
       refine dt_one ?_
       refine dt_m rfl (m_app_any (i := Tryd.t39) (z := (.agg #[.string ⟨#[]⟩, .int .i64 0, .int .i64 0, .int .u64 0, .int .u64 0, .int .u64 0, .int .i64 0, .int .i64 0, .int .u64 0, .int .u64 0, .int .u64 0])) (k := 11) (R := R) (rest := ([(k, secB (srow bs i)), (w.heap.size + 1, z12O), (w.heap.size, fndO bs v1 (.slice none 0 0) vP (.slice none 0 0)), (ab, .cells l.toArray e fr), (fb, fldO fv wide big)] ++ (y1.R ++ RP))) (news := secV [] (srow bs i)) (out := fun R' => [(k, secB (srow bs i)), (w.heap.size + 1, z12O), (w.heap.size, fndO bs v1 (.slice none 0 0) vP (.slice none 0 0)), (ab, .cells l.toArray e fr), (fb, fldO fv wide big)] ++ (y1.R ++ (R' ++ RP))) hrr rfl rfl (.cons _ (permA (R := R) (F := [(k, secB (srow bs i)), (w.heap.size + 1, z12O), (w.heap.size, fndO bs v1 (.slice none 0 0) vP (.slice none 0 0)), (ab, .cells l.toArray e fr), (fb, fldO fv wide big)]) (R1 := y1.R) (W := RP)).symm) (fun R' => permA) Tryd.underlying26 (by kernel_rfl) (by kernel_rfl) t39_size (by kernel_rfl) rfl rfl (by omega) (bytes_fit (by omega) t39_bytes) (by intro b h1 h2; omega)) (fun _ _ p hp => by simp at hp; rcases hp with hp | hp <;> simp [hp]) (fun y2 hy2 => ?_)
       refine dt_q rfl (q_assign rfl) ?_
       refine dt_q rfl (q_fieldj (j := 8) rfl Tryd.runUnderlying30 rfl Tryd.sizeOf26 rfl) ?_
       refine dt_one ?_
       refine dt_m0l rfl (m_store rfl rfl Tryd.sizeOf26 hy2.2.one (i := 2) rfl rfl rfl (by intro h; omega)) (by kernel_rfl) (fun _ _ => ?_)
       refine dt_nil ?_
       exact se_mid ⟨i, _, _, _, _, _⟩ ⟨hy1.2, hy2.2⟩ ⟨rfl, rfl, rfl, rfl, rfl, rfl, rfl, rfl, rfl, rfl, trivial⟩ (fun _ h => h.sublist (.cons _ (List.Sublist.refl _)))
      refine dt_m rfl (m_app_any (i := Tryd.t39) (z := (.agg #[.string ⟨#[]⟩, .int .i64 0, .int .i64 0, .int .u64 0, .int .u64 0, .int .u64 0, .int .i64 0, .int .i64 0, .int .u64 0, .int .u64 0, .int .u64 0])) (k := 11) (R := R) (rest := ((_ :: [(k, secB (srow bs i)), (w.heap.size + 1, z12O), (w.heap.size, fndO bs v1 (.slice none 0 0) vP (.slice none 0 0)), (ab, .cells l.toArray e fr), (fb, fldO fv wide big)]) ++ (A ++ RP))) (news := secV [] (srow bs i)) (out := fun R' => (_ :: [(k, secB (srow bs i)), (w.heap.size + 1, z12O), (w.heap.size, fndO bs v1 (.slice none 0 0) vP (.slice none 0 0)), (ab, .cells l.toArray e fr), (fb, fldO fv wide big)]) ++ (A ++ (R' ++ RP))) hrr rfl rfl ((List.Perm.swap _ _ _).trans (.cons _ (permA (R := R) (F := (_ :: [(k, secB (srow bs i)), (w.heap.size + 1, z12O), (w.heap.size, fndO bs v1 (.slice none 0 0) vP (.slice none 0 0)), (ab, .cells l.toArray e fr), (fb, fldO fv wide big)])) (R1 := A) (W := RP)).symm)) (fun R' => permA) Tryd.underlying26 (by kernel_rfl) (by kernel_rfl) t39_size (by kernel_rfl) rfl rfl (by omega) (bytes_fit (by omega) t39_bytes) (by intro b h1 h2; omega)) (fun _ _ p hp => by simp at hp; rcases hp with hp | hp <;> simp [hp]) (fun y2 hy2 => ?_)
      refine dt_one ?_
      refine dt_m rfl (m_app_any (i := Tryd.t23) (z := .int .u64 0) (k := 1) (R := A) (rest := ([(k, secB (srow bs i)), (w.heap.size + 1, z12O), (w.heap.size, fndO bs v1 (.slice none 0 0) vP (.slice none 0 0)), (ab, .cells l.toArray e fr), (fb, fldO fv wide big)] ++ (y2.R ++ RP))) (news := [.int .u64 (((srow bs i).name : Nat) : Int)]) (out := fun R' => [(k, secB (srow bs i)), (w.heap.size + 1, z12O), (w.heap.size, fndO bs v1 (.slice none 0 0) vP (.slice none 0 0)), (ab, .cells l.toArray e fr), (fb, fldO fv wide big)] ++ (R' ++ (y2.R ++ RP))) hra rfl rfl (.cons _ (List.perm_append_comm_assoc [(k, secB (srow bs i)), (w.heap.size + 1, z12O), (w.heap.size, fndO bs v1 (.slice none 0 0) vP (.slice none 0 0)), (ab, .cells l.toArray e fr), (fb, fldO fv wide big)] A (y2.R ++ RP))) (fun R' => List.perm_append_comm_assoc R' _ (y2.R ++ RP)) Tryd.underlying109 (by kernel_rfl) (by kernel_rfl) t23_size (by kernel_rfl) rfl rfl (by omega) (bytes_fit (by omega) t23_bytes) (by intro b h1 h2; omega)) (fun _ _ p hp => by simp at hp; rcases hp with hp | hp <;> simp [hp]) (fun y1 hy1 => ?_)
      refine dt_q rfl (q_assign rfl) ?_
      refine dt_q rfl (q_fieldj (j := 8) rfl Tryd.runUnderlying30 rfl Tryd.sizeOf26 rfl) ?_
      refine dt_one ?_
      refine dt_m0l rfl (m_store rfl rfl Tryd.sizeOf26 hy2.2.one (i := 2) rfl rfl rfl (by intro h; omega)) (by kernel_rfl) (fun _ _ => ?_)
      refine dt_nil ?_
      exact se_mid ⟨i, _, _, _, _, _⟩ ⟨hy1.2, hy2.2⟩ ⟨rfl, rfl, rfl, rfl, rfl, rfl, rfl, rfl, rfl, rfl, trivial⟩ (fun _ h => h.sublist (.cons _ (List.Sublist.refl _)))
     refine dt_m rfl (m_app_any (i := Tryd.t39) (z := (.agg #[.string ⟨#[]⟩, .int .i64 0, .int .i64 0, .int .u64 0, .int .u64 0, .int .u64 0, .int .i64 0, .int .i64 0, .int .u64 0, .int .u64 0, .int .u64 0])) (k := 11) (R := R) (rest := ([(k, secB (srow bs i)), (w.heap.size + 1, z12O), (w.heap.size, fndO bs v1 (.slice none 0 0) vP (.slice none 0 0)), (ab, .cells l.toArray e fr), (fb, fldO fv wide big)] ++ (A ++ RP))) (news := secV [] (srow bs i)) (out := fun R' => [(k, secB (srow bs i)), (w.heap.size + 1, z12O), (w.heap.size, fndO bs v1 (.slice none 0 0) vP (.slice none 0 0)), (ab, .cells l.toArray e fr), (fb, fldO fv wide big)] ++ (A ++ (R' ++ RP))) hrr rfl rfl (.cons _ (permA (R := R) (F := [(k, secB (srow bs i)), (w.heap.size + 1, z12O), (w.heap.size, fndO bs v1 (.slice none 0 0) vP (.slice none 0 0)), (ab, .cells l.toArray e fr), (fb, fldO fv wide big)]) (R1 := A) (W := RP)).symm) (fun R' => permA) Tryd.underlying26 (by kernel_rfl) (by kernel_rfl) t39_size (by kernel_rfl) rfl rfl (by omega) (bytes_fit (by omega) t39_bytes) (by intro b h1 h2; omega)) (fun _ _ p hp => by simp at hp; rcases hp with hp | hp <;> simp [hp]) (fun y2 hy2 => ?_)
     refine dt_one ?_
     refine dt_m rfl (m_lit (vs := [(0, _)]) ⟨rfl, rfl, trivial⟩ (e := 23) (l := [.int .u64 (((srow bs i).name : Nat) : Int)]) (fun w => by kernel_rfl)) (fun _ _ p hp => by simp at hp; rcases hp with hp | hp <;> simp [hp]) (fun _ _ => ?_)
     refine dt_one ?_
     refine dt_m rfl (m_app_any (i := Tryd.t23) (z := .int .u64 0) (k := 1) (R := A) (rest := ([(k, secB (srow bs i)), (w.heap.size + 1, z12O), (w.heap.size, fndO bs v1 (.slice none 0 0) vP (.slice none 0 0)), (ab, .cells l.toArray e fr), (fb, fldO fv wide big)] ++ (y2.R ++ RP))) (news := [.int .u64 (((srow bs i).name : Nat) : Int)]) (out := fun R' => [(k, secB (srow bs i)), (w.heap.size + 1, z12O), (w.heap.size, fndO bs v1 (.slice none 0 0) vP (.slice none 0 0)), (ab, .cells l.toArray e fr), (fb, fldO fv wide big)] ++ (R' ++ (y2.R ++ RP))) hra rfl rfl (.cons _ (List.perm_append_comm_assoc [(k, secB (srow bs i)), (w.heap.size + 1, z12O), (w.heap.size, fndO bs v1 (.slice none 0 0) vP (.slice none 0 0)), (ab, .cells l.toArray e fr), (fb, fldO fv wide big)] A (y2.R ++ RP))) (fun R' => List.perm_append_comm_assoc R' _ (y2.R ++ RP)) Tryd.underlying109 (by kernel_rfl) (by kernel_rfl) t23_size (by kernel_rfl) rfl rfl (by omega) (bytes_fit (by omega) t23_bytes) (by intro b h1 h2; omega)) (fun _ _ p hp => by simp at hp; rcases hp with hp | hp <;> simp [hp]) (fun y1 hy1 => ?_)
     refine dt_q rfl (q_assign rfl) ?_
     refine dt_q rfl (q_fieldj (j := 8) rfl Tryd.runUnderlying30 rfl Tryd.sizeOf26 rfl) ?_
     refine dt_one ?_
     refine dt_m0l rfl (m_store rfl rfl Tryd.sizeOf26 hy2.2.one (i := 2) rfl rfl rfl (by intro h; omega)) (by kernel_rfl) (fun _ _ => ?_)
     refine dt_nil ?_
     exact se_mid ⟨i, _, _, _, _, _⟩ ⟨hy1.2, hy2.2⟩ ⟨rfl, rfl, rfl, rfl, rfl, rfl, rfl, rfl, rfl, rfl, trivial⟩ (fun _ h => h.sublist (.cons _ (List.Sublist.refl _)))
    rintro ⟨i9, N9, vA9, A9, v19, R9⟩ ⟨hy1, hy2⟩
    dsimp only at hy1 hy2
    change Se _ _ _ _ _ _ N9 _
    refine se_block ?_
    refine se_seq ?_
    refine sc_region ?_
    refine sqM rfl rfl ?_
    refine sq_q (q_add rfl rfl (w_u64 (by omega) (by omega))) rfl ?_
    refine sqA rfl rfl ?_
    refine sq_nil ?_
    refine se_loop ⟨i + 1, _, _, _, _, _⟩ (by dsimp only; omega) ⟨by dsimp only; omega, by rw [atL_succ]; exact hy1, hy2, fun j hj => (by
     by_cases hji : j = i
     ·
      subst hji; exact ⟨hiok, hcp⟩
     ·
      exact hz4 j (by dsimp only at hj; omega))⟩ ⟨rfl, rfl, rfl, rfl, rfl, rfl, rfl, rfl, rfl, rfl, trivial⟩ (fun _ h => h)
   have hnok : ¬ (srow bs i).Ok := fun h => h9_7 h.2
   have hbad : ¬ Good bs := fun hg => hnok (hg.ss i hin)
   have hplain : Plain bs := plain_bad (fun j hj => (hz4 j hj).2) hnok
   refine sq_gy rfl rfl rfl ?_
   refine sq_q (q_not' rfl) rfl ?_
   refine sqF rfl rfl rfl ?_
   refine sqK [0, 2, 4, 5, 6, 8, 14, 17, 19, 20, 21, 22, 84] rfl ?_
   refine sc_cond_t rfl ?_
   refine scR ?_
   refine sq_q (q_loadK rfl Tryd.isAgg30 Tryd.sizeOf30 (i := 2) (vs := [.int .i64 ((bv bs 4 : Nat) : Int), .int .i64 ((bv bs 5 : Nat) : Int), .int .i64 ((bv bs 6 : Nat) : Int), .int .i64 ((bv bs 7 : Nat) : Int), .int .i64 ((bv bs 8 : Nat) : Int), .int .i64 ((hd bs).type : Int), .int .i64 ((hd bs).machine : Int), .int .u64 ((hd bs).entry : Int), v1, .slice none 0 0, vP, .slice none 0 0]) rfl rfl) rfl ?_
   refine sq_m0 (m_stores (i := 1) (vs := [.int .i64 ((bv bs 4 : Nat) : Int), .int .i64 ((bv bs 5 : Nat) : Int), .int .i64 ((bv bs 6 : Nat) : Int), .int .i64 ((bv bs 7 : Nat) : Int), .int .i64 ((bv bs 8 : Nat) : Int), .int .i64 ((hd bs).type : Int), .int .i64 ((hd bs).machine : Int), .int .u64 ((hd bs).entry : Int), v1, .slice none 0 0, vP, .slice none 0 0]) (l' := [.int .i64 ((bv bs 4 : Nat) : Int), .int .i64 ((bv bs 5 : Nat) : Int), .int .i64 ((bv bs 6 : Nat) : Int), .int .i64 ((bv bs 7 : Nat) : Int), .int .i64 ((bv bs 8 : Nat) : Int), .int .i64 ((hd bs).type : Int), .int .i64 ((hd bs).machine : Int), .int .u64 ((hd bs).entry : Int), v1, .slice none 0 0, vP, .slice none 0 0]) rfl rfl Tryd.sizeOf30 rfl (all12 hrr.one rfl sx.rp.one rfl) rfl (by simp) rfl rfl (by intro h; omega)) (fun _ _ => ?_)
   iterate 2 refine sqA rfl rfl ?_
   refine sqK [14, 15, 16] rfl ?_
   refine sc_ret ?_
   refine se_then_ret ?_
   refine se_block_ret ?_
   iterate 2 refine se_then_ret ?_
   refine se_block_ret ?_
   refine se_then_ret ?_
   exact se_end (resc2 Tryd.results14 rfl rfl rfl Tryd.isAgg30 Tryd.sizeOf30 (i := 1) rfl rfl) (fun w' hw => .inr (.inl ⟨hplain, hbad, ⟨_, rfl, rfl, (all12 hrr.one rfl sx.rp.one rfl), hw.eff⟩⟩))
  have hnok : ¬ (srow bs i).Ok := fun h => h9_2 h.1
  have hbad : ¬ Good bs := fun hg => hnok (hg.ss i hin)
  have hplain : Plain bs := plain_bad (fun j hj => (hz4 j hj).2) hnok
  refine sq_q (q_not' rfl) rfl ?_
  refine sqM rfl rfl ?_
  iterate 4 refine sq_gn rfl rfl rfl rfl ?_
  refine sqT rfl rfl rfl ?_
  refine sqK [0, 2, 4, 5, 6, 8, 14, 17, 19, 20, 21, 22, 84] rfl ?_
  refine sc_cond_t rfl ?_
  refine scR ?_
  refine sq_q (q_loadK rfl Tryd.isAgg30 Tryd.sizeOf30 (i := 2) (vs := [.int .i64 ((bv bs 4 : Nat) : Int), .int .i64 ((bv bs 5 : Nat) : Int), .int .i64 ((bv bs 6 : Nat) : Int), .int .i64 ((bv bs 7 : Nat) : Int), .int .i64 ((bv bs 8 : Nat) : Int), .int .i64 ((hd bs).type : Int), .int .i64 ((hd bs).machine : Int), .int .u64 ((hd bs).entry : Int), v1, .slice none 0 0, vP, .slice none 0 0]) rfl rfl) rfl ?_
  refine sq_m0 (m_stores (i := 1) (vs := [.int .i64 ((bv bs 4 : Nat) : Int), .int .i64 ((bv bs 5 : Nat) : Int), .int .i64 ((bv bs 6 : Nat) : Int), .int .i64 ((bv bs 7 : Nat) : Int), .int .i64 ((bv bs 8 : Nat) : Int), .int .i64 ((hd bs).type : Int), .int .i64 ((hd bs).machine : Int), .int .u64 ((hd bs).entry : Int), v1, .slice none 0 0, vP, .slice none 0 0]) (l' := [.int .i64 ((bv bs 4 : Nat) : Int), .int .i64 ((bv bs 5 : Nat) : Int), .int .i64 ((bv bs 6 : Nat) : Int), .int .i64 ((bv bs 7 : Nat) : Int), .int .i64 ((bv bs 8 : Nat) : Int), .int .i64 ((hd bs).type : Int), .int .i64 ((hd bs).machine : Int), .int .u64 ((hd bs).entry : Int), v1, .slice none 0 0, vP, .slice none 0 0]) rfl rfl Tryd.sizeOf30 rfl (all12 hrr.one rfl sx.rp.one rfl) rfl (by simp) rfl rfl (by intro h; omega)) (fun _ _ => ?_)
  iterate 2 refine sqA rfl rfl ?_
  refine sqK [14, 15, 16] rfl ?_
  refine sc_ret ?_
  refine se_then_ret ?_
  refine se_block_ret ?_
  iterate 2 refine se_then_ret ?_
  refine se_block_ret ?_
  refine se_then_ret ?_
  exact se_end (resc2 Tryd.results14 rfl rfl rfl Tryd.isAgg30 Tryd.sizeOf30 (i := 1) rfl rfl) (fun w' hw => .inr (.inl ⟨hplain, hbad, ⟨_, rfl, rfl, (all12 hrr.one rfl sx.rp.one rfl), hw.eff⟩⟩))
 have hdone : i = (hd bs).shnum := by omega
 refine sqK [0, 2, 4, 5, 6, 8, 14, 17, 19, 20, 53] rfl ?_
 refine sc_cond_f rfl ?_
 refine sc_exit ?_
 iterate 2 refine se_then_exit ?_
 refine se_block_hit ?_
 refine se_seq ?_
 iterate 2 refine scK [0, 4, 6, 8, 14, 19] rfl ?_
 subst hdone
 exact hnext _ _ _ _ _ ⟨hcut, fun j hj => (hz4 j hj).1, fun j hj => (hz4 j hj).2⟩ hra hrr

end Go.Proofs.YtgkjnkhoopcjgaaDoor
/- Rows of cells side by side: reading one, turning one cell. No condition. -/
namespace Go.Proofs.YtgkjnkhoopcjgaaDoor
open Go.Sx

theorem rows_split {g f : Nat → List Value} (h : ∀ n, g (n + 1) = g n ++ f n) {i n : Nat} (hi : i < n) : ∃ t, g n = g i ++ (f i ++ t) := by
  induction n with
  | zero => omega
  | succ n ih =>
    rw [h n]
    by_cases hin : i = n
    · subst hin; exact ⟨[], by simp⟩
    · obtain ⟨t, ht⟩ := ih (by omega)
      exact ⟨t ++ f n, by rw [ht]; simp [List.append_assoc]⟩
theorem secV_length (nm : List UInt8) (r : SRow) : (secV nm r).length = 11 := rfl
theorem prgV_length (r : PRow) : (prgV r).length = 8 := rfl
theorem prgsL_length {bs : List UInt8} {n : Nat} : (prgsL bs n).length = n * 8 := by
  induction n with
  | zero => rfl
  | succ n ih => simp [prgsL, ih, prgV]; omega
theorem drop_take_mid {a b c : List Value} {o k : Nat} (ha : a.length = o) (hb : b.length = k) : ((a ++ (b ++ c)).drop o).take k = b := by
  subst ha; subst hb
  rw [List.drop_append_of_le_length (Nat.le_refl _), List.drop_length, List.nil_append, List.take_append_of_le_length (Nat.le_refl _), List.take_length]
theorem sec_at {bs : List UInt8} {nm : Nat → List UInt8} {i n : Nat} {pad : List Value} (hi : i < n) : ((secsL bs nm n ++ pad).drop (i * 11)).take 11 = secV (nm i) (srow bs i) := by
  obtain ⟨t, ht⟩ := rows_split (g := secsL bs nm) (f := fun i => secV (nm i) (srow bs i)) (fun _ => rfl) hi
  rw [ht, List.append_assoc, List.append_assoc]
  exact drop_take_mid secsL_length (secV_length _ _)
theorem prg_at {bs : List UInt8} {i n : Nat} {pad : List Value} (hi : i < n) : ((prgsL bs n ++ pad).drop (i * 8)).take 8 = prgV (prow bs i) := by
  obtain ⟨t, ht⟩ := rows_split (g := prgsL bs) (f := fun i => prgV (prow bs i)) (fun _ => rfl) hi
  rw [ht, List.append_assoc, List.append_assoc]
  exact drop_take_mid prgsL_length (prgV_length _)
theorem secsL_congr {bs : List UInt8} {f g : Nat → List UInt8} {n : Nat} (h : ∀ j, j < n → f j = g j) : secsL bs f n = secsL bs g n := by
  induction n with
  | zero => rfl
  | succ n ih => rw [secsL, secsL, ih fun j hj => h j (by omega), h n (by omega)]
theorem secsL_set {bs : List UInt8} {f g : Nat → List UInt8} {i n : Nat} (hi : i < n) (h : ∀ j, j ≠ i → f j = g j) : (secsL bs f n).set (i * 11) (.string (strB (g i))) = secsL bs g n := by
  induction n with
  | zero => omega
  | succ n ih =>
    rw [secsL, secsL]
    by_cases hin : i = n
    · subst hin
      rw [List.set_append_right _ _ (by rw [secsL_length]; exact Nat.le_refl _), secsL_length, Nat.sub_self, secsL_congr (f := f) (g := g) fun j hj => h j (by omega)]
      rfl
    · rw [List.set_append_left _ _ (by rw [secsL_length]; omega), ih (by omega), h n (fun hh => hin hh.symm)]
theorem _root_.Go.Sx.setK_mk {α β : Type} {z : β} : ∀ {l : List α} {n : Nat} {v : α} {k : List α → Option β}, n < l.length → k (l.set n v) = some z → setK l n v k = some z
  | [], n, _, _, h, _ => by simp at h
  | _ :: _, 0, _, _, _, h => h
  | a :: r, n + 1, v, k, h, hk => setK_mk (l := r) (k := fun t => k (a :: t)) (by simpa using h) hk

section
variable {w0 : World} {P : Program} {E : Nat → Prop} {fm : FM} {N : Nat} {mm : MM} {x y : Operand} {ts : Array TypeId} {d : Option Nat} {ty : TypeId} {pos : String} {after : Array Edge} {g : Option (Nat × Bool)}
theorem q_loadM {t e : TypeId} {b o i n : Nat} {l vs : List Value} {fr : Nat × Nat} (hx : fm.ev x = some (.pointer (some ⟨b, o, none⟩))) (ha : ∀ w, (isAgg t).run P w = .ok true w) (hs : ∀ w, (sizeOf t).run P w = .ok n w)
    (hm : mm[i]? = some (b, .cells l.toArray e fr)) (hn : o + n ≤ l.length) (hr : (l.drop o).take n = vs) : Quiet P fm mm ⟨d, .load t x, ty, pos, after, g⟩ (.agg vs.toArray) :=
  q_loads hx ha hs hm (by simpa using hn) (by apply Array.ext'; simp [List.extract_eq_take_drop, hr])
theorem text_inv {v : Value} {xs : List UInt8} {s : Nat} (hx : fm.ev x = some v) (hv : ByIn mm v xs) (hxs : xs.length ≤ 8192) (hy : fm.ev y = some (.int .u64 (s : Int))) (hs : s < 18446744073709551616) :
    Main Tryd.prog w0 E fm N mm ⟨d, .call { callee := .value (.func 20), args := #[x, y], argTypes := ts }, ty, pos, after, g⟩ (fun _ : Unit => .tuple #[.string (strB ((if s < xs.length then textFrom (xs.drop s) else none).getD [])), .bool (if s < xs.length then textFrom (xs.drop s) else none).isSome]) (fun _ => N) (fun _ => mm) (fun _ => True) := by
  rcases hv with ⟨rfl, ad, c, rfl⟩ | ⟨b, o, c, l, e, fr, rfl, hc, hc2, hm, hat, hl, h0⟩
  · refine m_call (args2 hx hy) Tryd.call20 fun w hw => (text20_nil hs).mono fun en w' ⟨h1, h2⟩ => ⟨(), trivial, ?_, hw.same h2⟩
    rw [h1, if_neg (by simp)]; rfl
  · exact m_call (args2 hx hy) Tryd.call20 fun w hw => (text20 (hw.has _ hm) hat hc hxs hs).mono fun en w' ⟨h1, h2⟩ => ⟨(), trivial, h1, hw.same h2⟩
end
theorem cut_by {ab ao c a n : Nat} {bs : List UInt8} {l : List Value} {e : TypeId} {fr : Nat × Nat} {q : CutX} (hm : bs.length ≤ c) (hc : c ≤ 9223372036854775807) (hat : At l ao bs) (hl : ao + bs.length ≤ l.length)
    (hq : (n = 0 ∧ q.v = .slice none 0 0 ∧ q.b = true) ∨ (n ≠ 0 ∧ ¬ a + n ≤ bs.length ∧ q.v = .slice none 0 0 ∧ q.b = false) ∨ (n ≠ 0 ∧ a + n ≤ bs.length ∧ q.v = .slice (some ⟨ab, ao + a, none⟩) n (c - a) ∧ q.b = true)) :
    (q.b = true ∧ CutOk bs a n ∧ q.v.oneCell' = true ∧ ByIn [(ab, .cells l.toArray e fr)] q.v (cut bs a n)) ∨ (q.b = false ∧ ¬ CutOk bs a n ∧ q.v = .slice none 0 0) := by
  rcases hq with ⟨h1, h2, h3⟩ | ⟨h1, h2, h3, h4⟩ | ⟨h1, h2, h3, h4⟩
  · refine .inl ⟨h3, .inl h1, by rw [h2]; rfl, .inl ⟨?_, none, 0, h2⟩⟩
    subst h1; simp [cut]
  · exact .inr ⟨h4, (by rintro (h | h) <;> omega), h3⟩
  · have hlen : (cut bs a n).length = n := by unfold cut; simp; omega
    refine .inl ⟨h4, .inr h2, by rw [h3]; rfl, .inr ⟨ab, ao + a, c - a, l, e, fr, by rw [h3, hlen], by omega, by omega, List.mem_singleton.2 rfl, At_at hat rfl h2, by omega, by omega⟩⟩
end Go.Proofs.YtgkjnkhoopcjgaaDoor
/- spec.sections: the names. Conditions: the bytes lie in memory, at most 8192 of them; the header, the programs and the table are right. -/
namespace Go.Proofs.YtgkjnkhoopcjgaaDoor
open Go.Sx
set_option maxRecDepth 100000
set_option maxHeartbeats 4000000

noncomputable def s6 : Code := s5.tl
/-- The names are right. -/
structure NamS (bs : List UInt8) : Prop where
  st : named bs = true → (srow bs (hd bs).names).type = 3 ∧ CutOk bs (srow bs (hd bs).names).off (srow bs (hd bs).names).size ∧ ∀ i, i < (hd bs).shnum → (nameAt bs i).isSome = true
def StS3 (bs : List UInt8) (ab ao c fb : Nat) (fv vP : Value) (l : List Value) (e : TypeId) (fr : Nat × Nat) (RP : MM) (m : Nat) (w : World) (wide big : Bool) : Prop := ∀ (N : Nat) (v1 : Value) (R : MM), TabS bs → NamS bs → RowOk w.heap.size 39 11 (secsL bs (nameOf bs) (hd bs).shnum) (hd bs).shnum v1 R →
  Sc Tryd.prog s6 (bodyPost Tryd.prog Tryd.f14 (FindR bs [(ab, .cells l.toArray e fr)] m w)) 226 w E0 [(0, .slice (some ⟨ab, ao, none⟩) bs.length c), (8, .pointer (some ⟨w.heap.size, 0, none⟩)), (14, .pointer (some ⟨w.heap.size + 1, 0, none⟩))] N
    ((w.heap.size + 1, z12O) :: (w.heap.size, fndO bs v1 (.slice none 0 0) vP (.slice none 0 0)) :: (ab, .cells l.toArray e fr) :: (fb, fldO fv wide big) :: (R ++ RP))
theorem named_not {bs : List UInt8} {n : Nat} (h : named bs = false) : secsL bs (fun _ => []) n = secsL bs (nameOf bs) n := secsL_congr fun j _ => by rw [nameOf, h]; rfl
theorem nams_not {bs : List UInt8} (h : named bs = false) : NamS bs := ⟨fun hh => by rw [h] at hh; cases hh⟩
def nmI (bs : List UInt8) (i j : Nat) : List UInt8 := if j < i then nameOf bs j else []
theorem atL_get {bs : List UInt8} {i n : Nat} {pad : List Value} (h : i < n) : (atL bs n ++ pad)[i]? = some (.int .u64 (((srow bs i).name : Nat) : Int)) := by
  rw [List.getElem?_append_left (by rw [atL_length]; exact h)]
  simp [atL, h]

theorem set_name {bs : List UInt8} {i n : Nat} {pad : List Value} {x : List UInt8} (hi : i < n) (hx : nameOf bs i = x) : (secsL bs (nmI bs i) n ++ pad).set (i * 11) (.string (strB x)) = secsL bs (nmI bs (i + 1)) n ++ pad := by
  rw [List.set_append_left _ _ (by rw [secsL_length]; omega)]
  congr 1
  have h1 : nmI bs (i + 1) i = x := by rw [nmI, if_pos (by omega), hx]
  rw [← h1]
  exact secsL_set hi fun j hj => by
    unfold nmI
    by_cases h : j < i
    · rw [if_pos h, if_pos (by omega)]
    · rw [if_neg h, if_neg (by omega)]

theorem s2_names {bs : List UInt8} {ab ao c fb : Nat} {fv vP : Value} {l : List Value} {e : TypeId} {fr : Nat × Nat} {RP : MM} {m : Nat} {w : World} {wide big : Bool} (sx : Hs bs ab ao c fb fv vP l e fr RP m w wide big) (hnext : StS3 bs ab ao c fb fv vP l e fr RP m w wide big) : StS2 bs ab ao c fb fv vP l e fr RP m w wide big := by
  intro N vA v1 A R ht hA hR
  obtain ⟨hl1, hl2, hl3, hl4, hl5, hl6, hl7, hl8, hl9, hl10, hl11⟩ := hd_lt bs
  have blen := sx.len
  have hcap := sx.cap
  have hcap2 := sx.cap2
  refine sc_known fun hnd1 hge1 hlt1 => ?_
  refine sc_seq ?_
  refine scR ?_
  refine sqM rfl rfl ?_
  refine sq_split (q_gtr rfl rfl) rfl (fun h14_1 => ?_) (fun h14_1 => ?_)
  · obtain ⟨a, ca, pa, rfl, rfl, hca, hca2, hpa, hma⟩ := hA.2.resolve_left (fun h => by have := h.1; omega)
    obtain ⟨b, cr, pr, rfl, rfl, hcr, hcr2, hpr, hmb⟩ := hR.2.resolve_left (fun h => by have := h.1; omega)
    refine sqM rfl rfl ?_
    refine sq_gy rfl rfl rfl ?_
    refine sqM rfl rfl ?_
    refine sq_gy rfl rfl rfl ?_
    refine sq_split (q_gtr rfl rfl) rfl (fun h14_4 => ?_) (fun h14_4 => ?_)
    · have _tok := trivial
      refine sqT rfl rfl rfl ?_
      refine sqK [0, 6, 8, 14, 19, 106] rfl ?_
      refine sc_cond_t rfl ?_
      refine sc_seq ?_
      have hnm : (hd bs).names < (hd bs).shnum := sx.pre.head.nm (by omega)
      have hn1 : named bs = true := by rw [named]; simp; omega
      obtain ⟨q1, q2, q3, q4, q5, q6, q7, q8, q9, q10⟩ := (srowAt_lt _ _ _ _ : (srow bs (hd bs).names).Lt)
      refine sc_region ?_
      refine sq_q (q_fieldj (j := 8) rfl Tryd.runUnderlying30 rfl Tryd.sizeOf26 rfl) rfl ?_
      refine sq_q (q_load1 rfl Tryd.isAgg26 (i := 1) rfl rfl) rfl ?_
      refine sqM rfl rfl ?_
      refine sq_q (q_index (j := (hd bs).names * 11) rfl rfl Tryd.runUnderlying26 Tryd.sizeOf39 ⟨by omega, by omega⟩ (by rw [Int.toNat_natCast]; omega)) rfl ?_
      refine sq_q (q_loadM rfl Tryd.isAgg39 Tryd.sizeOf39 (i := 5) rfl (by rw [List.length_append, secsL_length]; omega) (sec_at hnm)) rfl ?_
      refine sq_m (m_alloc (l := [.string ⟨#[]⟩, .int .i64 0, .int .i64 0, .int .u64 0, .int .u64 0, .int .u64 0, .int .i64 0, .int .i64 0, .int .u64 0, .int .u64 0, .int .u64 0]) Tryd.zeroValue39 rfl) rfl (fun _ _ => ?_)
      refine sq_m0 (m_stores (i := 0) (vs := secV [] (srow bs (hd bs).names)) (l' := secV [] (srow bs (hd bs).names)) rfl rfl Tryd.sizeOf39 rfl rfl rfl (by simp) rfl rfl (by intro h; omega)) (fun _ _ => ?_)
      refine sqKR [0, 8, 14, 19, 23] rfl ?_
      refine sqM rfl rfl ?_
      refine sq_q (q_fieldj (j := 4) rfl Tryd.runUnderlying39 rfl Tryd.sizeOf23 rfl) rfl ?_
      refine sq_q (q_load1 rfl Tryd.isAgg23 (i := 0) rfl rfl) rfl ?_
      refine sq_q (q_fieldj (j := 10) rfl Tryd.runUnderlying39 rfl Tryd.sizeOf23 rfl) rfl ?_
      refine sq_q (q_load1 rfl Tryd.isAgg23 (i := 0) rfl rfl) rfl ?_
      refine sq_m (cut_inv (a := (srow bs (hd bs).names).off) (n := (srow bs (hd bs).names).size) hcap hcap2 q5 q6 rfl rfl rfl) rfl (fun q hq => ?_)
      obtain ⟨v24, b24⟩ := q
      have hcb := cut_by (e := e) (fr := fr) hcap hcap2 sx.at_ sx.all hq
      clear hq
      rcases hcb with ⟨hb1, hcut, hv1, hby⟩ | ⟨hb1, hcut, hv1⟩ <;> dsimp only at hb1 hv1 <;> subst hb1
      · dsimp only at hby
        refine sqM rfl rfl ?_
        iterate 2 refine sq_q (q_extract rfl rfl) rfl ?_
        iterate 2 refine sqA rfl rfl ?_
        refine sqK [0, 8, 14, 19, 23, 24, 25] rfl ?_
        refine sc_seq ?_
        refine scR ?_
        refine sq_q (q_fieldj (j := 1) rfl Tryd.runUnderlying39 rfl Tryd.sizeOf3 rfl) rfl ?_
        refine sq_q (q_load1 rfl Tryd.isAgg3 (i := 0) rfl rfl) rfl ?_
        refine sq_split (q_neq rfl rfl) rfl (fun h17_2 => ?_) (fun h17_2 => ?_)
        · have hbad : ¬ Good bs := fun hg => by have := (hg.st hn1).1; omega
          refine sqM rfl rfl ?_
          iterate 2 refine sq_gn rfl rfl rfl rfl ?_
          refine sqT rfl rfl rfl ?_
          refine sqK [0, 8, 14, 19, 24, 127] rfl ?_
          refine sc_cond_t rfl ?_
          refine scR ?_
          refine sq_q (q_loadK rfl Tryd.isAgg30 Tryd.sizeOf30 (i := 2) (vs := [.int .i64 ((bv bs 4 : Nat) : Int), .int .i64 ((bv bs 5 : Nat) : Int), .int .i64 ((bv bs 6 : Nat) : Int), .int .i64 ((bv bs 7 : Nat) : Int), .int .i64 ((bv bs 8 : Nat) : Int), .int .i64 ((hd bs).type : Int), .int .i64 ((hd bs).machine : Int), .int .u64 ((hd bs).entry : Int), (.slice (some ⟨b, 0, none⟩) (hd bs).shnum cr), .slice none 0 0, vP, .slice none 0 0]) rfl rfl) rfl ?_
          refine sq_m0 (m_stores (i := 1) (vs := [.int .i64 ((bv bs 4 : Nat) : Int), .int .i64 ((bv bs 5 : Nat) : Int), .int .i64 ((bv bs 6 : Nat) : Int), .int .i64 ((bv bs 7 : Nat) : Int), .int .i64 ((bv bs 8 : Nat) : Int), .int .i64 ((hd bs).type : Int), .int .i64 ((hd bs).machine : Int), .int .u64 ((hd bs).entry : Int), (.slice (some ⟨b, 0, none⟩) (hd bs).shnum cr), .slice none 0 0, vP, .slice none 0 0]) (l' := [.int .i64 ((bv bs 4 : Nat) : Int), .int .i64 ((bv bs 5 : Nat) : Int), .int .i64 ((bv bs 6 : Nat) : Int), .int .i64 ((bv bs 7 : Nat) : Int), .int .i64 ((bv bs 8 : Nat) : Int), .int .i64 ((hd bs).type : Int), .int .i64 ((hd bs).machine : Int), .int .u64 ((hd bs).entry : Int), (.slice (some ⟨b, 0, none⟩) (hd bs).shnum cr), .slice none 0 0, vP, .slice none 0 0]) rfl rfl Tryd.sizeOf30 rfl (all12 rfl rfl sx.rp.one rfl) rfl (by simp) rfl rfl (by intro h; omega)) (fun _ _ => ?_)
          iterate 2 refine sqA rfl rfl ?_
          refine sqK [14, 15, 16] rfl ?_
          refine sc_ret ?_
          iterate 2 refine se_then_ret ?_
          have hplain : Plain bs := plain_all ht.cp
          exact se_end (resc2 Tryd.results14 rfl rfl rfl Tryd.isAgg30 Tryd.sizeOf30 (i := 1) rfl rfl) (fun w' hw => .inr (.inl ⟨hplain, hbad, ⟨_, rfl, rfl, (all12 rfl rfl sx.rp.one rfl), hw.eff⟩⟩))
        refine sqM rfl rfl ?_
        refine sq_gy rfl rfl rfl ?_
        refine sqM rfl rfl ?_
        refine sq_gy rfl rfl rfl ?_
        refine sq_q (q_not' rfl) rfl ?_
        refine sqF rfl rfl rfl ?_
        refine sqK [0, 8, 14, 19, 24, 127] rfl ?_
        refine sc_cond_f rfl ?_
        refine scS ?_
        refine scK [0, 8, 14, 19, 24] rfl ?_
        refine scR ?_
        refine sq_q (q_fieldj (j := 8) rfl Tryd.runUnderlying30 rfl Tryd.sizeOf26 rfl) rfl ?_
        refine sq_q (q_load1 rfl Tryd.isAgg26 (i := 2) rfl rfl) rfl ?_
        refine sq_q (q_len rfl Tryd.runUnderlying26) rfl ?_
        refine sqM rfl rfl ?_
        refine sqK [0, 8, 14, 19, 24, 131, 132] rfl ?_
        refine sc_block ?_
        refine sc_loop (ι := Nat) (fun i => [(0, .slice (some ⟨ab, ao, none⟩) bs.length c), (8, .pointer (some ⟨w.heap.size, 0, none⟩)), (14, .pointer (some ⟨w.heap.size + 1, 0, none⟩)), (19, .slice (some ⟨a, 0, none⟩) (hd bs).shnum ca), (24, v24), (131, .int .i64 ((hd bs).shnum : Int)), (132, .int .i64 (i : Int))]) (fun _ => _) (fun i => (w.heap.size + 1, z12O) :: (w.heap.size, fndO bs (.slice (some ⟨b, 0, none⟩) (hd bs).shnum cr) (.slice none 0 0) vP (.slice none 0 0)) :: (ab, .cells l.toArray e fr) :: (fb, fldO fv wide big) :: (a, .cells (atL bs (hd bs).shnum ++ pa).toArray 23 (0, 0)) :: (b, .cells (secsL bs (nmI bs i) (hd bs).shnum ++ pr).toArray 39 (0, 0)) :: RP) (fun i => i ≤ (hd bs).shnum ∧ ∀ j, j < i → (nameAt bs j).isSome = true) (fun i => (hd bs).shnum - i) 0 ⟨⟨Nat.zero_le _, fun j hj => absurd hj (Nat.not_lt_zero _)⟩, ⟨rfl, rfl, rfl, rfl, rfl, rfl, rfl, trivial⟩, rfl, fun _ h => h.sublist (.cons _ (List.Sublist.refl _))⟩ ?_
        rintro i ⟨hi1, hi2⟩
        refine scR ?_
        refine sq_split (q_lss rfl rfl) rfl (fun h20_0 => ?_) (fun h20_0 => ?_)
        · have hlt : i < (hd bs).shnum := by omega
          have qn := (srowAt_lt _ _ _ _ : (srow bs i).Lt).name
          have qn64 : (srow bs i).name < 18446744073709551616 := Nat.lt_trans qn (by decide)
          refine sqZ ?_
          refine sc_seq ?_
          refine sc_cond_t rfl ?_
          refine scS ?_
          refine scK [0, 8, 14, 19, 24, 131, 132] rfl ?_
          refine sc_seq ?_
          refine sc_block ?_
          refine scR ?_
          refine sqM rfl rfl ?_
          refine sqA rfl rfl ?_
          refine sqKR [0, 8, 14, 19, 24, 26, 131, 132] rfl ?_
          iterate 3 refine sqM rfl rfl ?_
          refine sq_q (q_index (j := i) rfl rfl Tryd.runUnderlying109 Tryd.sizeOf23 ⟨by omega, by omega⟩ (by rw [Int.toNat_natCast]; omega)) rfl ?_
          refine sq_q (q_load1 rfl Tryd.isAgg23 (i := 4) rfl (atL_get hlt)) rfl ?_
          refine sq_m (text_inv rfl (hby.mono (by intro p hp; simp at hp; simp [hp])) (by unfold cut; simp; omega) rfl qn64) rfl (fun _ _ => ?_)
          refine sqM rfl rfl ?_
          iterate 2 refine sq_q (q_extract rfl rfl) rfl ?_
          iterate 2 refine sqA rfl rfl ?_
          refine sqK [0, 8, 14, 19, 24, 26, 27, 28, 131, 132] rfl ?_
          refine sc_seq ?_
          refine scR ?_
          refine sqM rfl rfl ?_
          refine sq_q (q_not' rfl) rfl ?_
          refine sqK [0, 8, 14, 19, 24, 26, 27, 131, 132, 145] rfl ?_
          refine sc_cond rfl (fun h23 => ?_) (fun h23 => ?_)
          · have hbad : ¬ Good bs := fun hg => by
              have h9 : (nameAt bs i).isSome = true := (hg.st hn1).2.2 i hlt
              have h8 : (!(nameAt bs i).isSome) = true := h23
              rw [h9] at h8; cases h8
            refine scR ?_
            refine sq_q (q_loadK rfl Tryd.isAgg30 Tryd.sizeOf30 (i := 1) (vs := [.int .i64 ((bv bs 4 : Nat) : Int), .int .i64 ((bv bs 5 : Nat) : Int), .int .i64 ((bv bs 6 : Nat) : Int), .int .i64 ((bv bs 7 : Nat) : Int), .int .i64 ((bv bs 8 : Nat) : Int), .int .i64 ((hd bs).type : Int), .int .i64 ((hd bs).machine : Int), .int .u64 ((hd bs).entry : Int), (.slice (some ⟨b, 0, none⟩) (hd bs).shnum cr), .slice none 0 0, vP, .slice none 0 0]) rfl rfl) rfl ?_
            refine sq_m0 (m_stores (i := 0) (vs := [.int .i64 ((bv bs 4 : Nat) : Int), .int .i64 ((bv bs 5 : Nat) : Int), .int .i64 ((bv bs 6 : Nat) : Int), .int .i64 ((bv bs 7 : Nat) : Int), .int .i64 ((bv bs 8 : Nat) : Int), .int .i64 ((hd bs).type : Int), .int .i64 ((hd bs).machine : Int), .int .u64 ((hd bs).entry : Int), (.slice (some ⟨b, 0, none⟩) (hd bs).shnum cr), .slice none 0 0, vP, .slice none 0 0]) (l' := [.int .i64 ((bv bs 4 : Nat) : Int), .int .i64 ((bv bs 5 : Nat) : Int), .int .i64 ((bv bs 6 : Nat) : Int), .int .i64 ((bv bs 7 : Nat) : Int), .int .i64 ((bv bs 8 : Nat) : Int), .int .i64 ((hd bs).type : Int), .int .i64 ((hd bs).machine : Int), .int .u64 ((hd bs).entry : Int), (.slice (some ⟨b, 0, none⟩) (hd bs).shnum cr), .slice none 0 0, vP, .slice none 0 0]) rfl rfl Tryd.sizeOf30 rfl (all12 rfl rfl sx.rp.one rfl) rfl (by simp) rfl rfl (by intro h; omega)) (fun _ _ => ?_)
            iterate 2 refine sqA rfl rfl ?_
            refine sqK [14, 15, 16] rfl ?_
            refine sc_ret ?_
            refine se_then_ret ?_
            refine se_block_ret ?_
            iterate 2 refine se_then_ret ?_
            refine se_block_ret ?_
            refine se_then_ret ?_
            have hplain : Plain bs := plain_all ht.cp
            exact se_end (resc2 Tryd.results14 rfl rfl rfl Tryd.isAgg30 Tryd.sizeOf30 (i := 0) rfl rfl) (fun w' hw => .inr (.inl ⟨hplain, hbad, ⟨_, rfl, rfl, (all12 rfl rfl sx.rp.one rfl), hw.eff⟩⟩))
          have hsome : (nameAt bs i).isSome = true := by
            have h8 : (!(nameAt bs i).isSome) = false := h23
            simpa using h8
          have hnmi : nameOf bs i = (nameAt bs i).getD [] := by rw [nameOf, hn1]; rfl
          refine scS ?_
          refine scK [0, 8, 14, 19, 24, 26, 27, 131, 132] rfl ?_
          refine sc_region ?_
          refine sq_q (q_fieldj (j := 8) rfl Tryd.runUnderlying30 rfl Tryd.sizeOf26 rfl) rfl ?_
          refine sq_q (q_load1 rfl Tryd.isAgg26 (i := 1) rfl rfl) rfl ?_
          iterate 2 refine sqM rfl rfl ?_
          refine sq_q (q_index (j := i * 11) rfl rfl Tryd.runUnderlying26 Tryd.sizeOf39 ⟨by omega, by omega⟩ (by rw [Int.toNat_natCast]; omega)) rfl ?_
          refine sq_q (q_fieldj (j := i * 11) rfl Tryd.runUnderlying39 rfl Tryd.sizeOf9 rfl) rfl ?_
          refine sq_m0 (m_store rfl rfl Tryd.sizeOf9 rfl (i := 5) rfl (setK_mk (by rw [List.length_append, secsL_length]; omega) (congrArg some (set_name (x := (nameAt bs i).getD []) hlt hnmi))) rfl (by intro h; omega)) (fun _ _ => ?_)
          refine sq_nil ?_
          refine se_block ?_
          refine se_seq ?_
          refine scK [0, 8, 14, 19, 24, 131, 132] rfl ?_
          refine sc_region ?_
          refine sq_q (q_add rfl rfl (w_i64 (by omega) (by omega))) rfl ?_
          refine sqM rfl rfl ?_
          refine sq_nil ?_
          refine se_loop (i + 1) (by omega) ⟨by omega, fun j hj => (by
            by_cases hji : j = i
            · subst hji; exact hsome
            · exact hi2 j (by omega))⟩ ⟨rfl, rfl, rfl, rfl, rfl, rfl, rfl, trivial⟩ (fun _ h => h)
        have hdone : i = (hd bs).shnum := by omega
        refine sqZ ?_
        refine sc_seq ?_
        refine sc_cond_f rfl ?_
        refine sc_exit ?_
        iterate 2 refine se_then_exit ?_
        refine se_block_hit ?_
        refine se_seq ?_
        iterate 2 refine scK [0, 8, 14] rfl ?_
        first
        | (subst hdone
           refine sc_mem (fun _ h => h.sublist (.cons_cons _ (.cons_cons _ (.cons_cons _ (.cons_cons _ (.cons _ (List.Sublist.refl _))))))) ?_
           refine hnext _ _ [_] ht ⟨fun _ => ⟨by omega, hcut, hi2⟩⟩ ⟨secsL_length, .inr ⟨b, cr, pr, rfl, ?_, hcr, hcr2, hpr, hmb⟩⟩
           rw [secsL_congr (f := nameOf bs) (g := nmI bs (hd bs).shnum) fun j hj => by rw [nmI, if_pos hj]])
        | (have hnn : named bs = false := by rw [named]; simp; omega
           rw [named_not hnn]
           refine sc_mem (fun _ h => h.sublist (.cons_cons _ (.cons_cons _ (.cons_cons _ (.cons_cons _ (.cons _ (List.Sublist.refl _))))))) ?_
           exact hnext _ _ [_] ht (nams_not hnn) ⟨secsL_length, .inr ⟨b, cr, pr, rfl, rfl, hcr, hcr2, hpr, hmb⟩⟩)
        | (refine sc_mem (fun _ h => h.sublist (.cons_cons _ (.cons_cons _ (.cons_cons _ (.cons_cons _ (List.sublist_append_right _ _)))))) ?_
           exact hnext _ _ _ ht (nams_not hnn) hR)
      have hbad : ¬ Good bs := fun hg => hcut (hg.st hn1).2.1
      refine sqM rfl rfl ?_
      iterate 2 refine sq_q (q_extract rfl rfl) rfl ?_
      iterate 2 refine sqA rfl rfl ?_
      refine sqK [0, 8, 14, 19, 23, 24, 25] rfl ?_
      refine sc_seq ?_
      refine scR ?_
      refine sq_q (q_fieldj (j := 1) rfl Tryd.runUnderlying39 rfl Tryd.sizeOf3 rfl) rfl ?_
      refine sq_q (q_load1 rfl Tryd.isAgg3 (i := 0) rfl rfl) rfl ?_
      refine sq_split (q_neq rfl rfl) rfl (fun h17_2 => ?_) (fun h17_2 => ?_)
      · have hbad : ¬ Good bs := fun hg => by have := (hg.st hn1).1; omega
        refine sqM rfl rfl ?_
        iterate 2 refine sq_gn rfl rfl rfl rfl ?_
        refine sqT rfl rfl rfl ?_
        refine sqK [0, 8, 14, 19, 24, 127] rfl ?_
        refine sc_cond_t rfl ?_
        refine scR ?_
        refine sq_q (q_loadK rfl Tryd.isAgg30 Tryd.sizeOf30 (i := 2) (vs := [.int .i64 ((bv bs 4 : Nat) : Int), .int .i64 ((bv bs 5 : Nat) : Int), .int .i64 ((bv bs 6 : Nat) : Int), .int .i64 ((bv bs 7 : Nat) : Int), .int .i64 ((bv bs 8 : Nat) : Int), .int .i64 ((hd bs).type : Int), .int .i64 ((hd bs).machine : Int), .int .u64 ((hd bs).entry : Int), (.slice (some ⟨b, 0, none⟩) (hd bs).shnum cr), .slice none 0 0, vP, .slice none 0 0]) rfl rfl) rfl ?_
        refine sq_m0 (m_stores (i := 1) (vs := [.int .i64 ((bv bs 4 : Nat) : Int), .int .i64 ((bv bs 5 : Nat) : Int), .int .i64 ((bv bs 6 : Nat) : Int), .int .i64 ((bv bs 7 : Nat) : Int), .int .i64 ((bv bs 8 : Nat) : Int), .int .i64 ((hd bs).type : Int), .int .i64 ((hd bs).machine : Int), .int .u64 ((hd bs).entry : Int), (.slice (some ⟨b, 0, none⟩) (hd bs).shnum cr), .slice none 0 0, vP, .slice none 0 0]) (l' := [.int .i64 ((bv bs 4 : Nat) : Int), .int .i64 ((bv bs 5 : Nat) : Int), .int .i64 ((bv bs 6 : Nat) : Int), .int .i64 ((bv bs 7 : Nat) : Int), .int .i64 ((bv bs 8 : Nat) : Int), .int .i64 ((hd bs).type : Int), .int .i64 ((hd bs).machine : Int), .int .u64 ((hd bs).entry : Int), (.slice (some ⟨b, 0, none⟩) (hd bs).shnum cr), .slice none 0 0, vP, .slice none 0 0]) rfl rfl Tryd.sizeOf30 rfl (all12 rfl rfl sx.rp.one rfl) rfl (by simp) rfl rfl (by intro h; omega)) (fun _ _ => ?_)
        iterate 2 refine sqA rfl rfl ?_
        refine sqK [14, 15, 16] rfl ?_
        refine sc_ret ?_
        iterate 2 refine se_then_ret ?_
        have hplain : Plain bs := plain_all ht.cp
        exact se_end (resc2 Tryd.results14 rfl rfl rfl Tryd.isAgg30 Tryd.sizeOf30 (i := 1) rfl rfl) (fun w' hw => .inr (.inl ⟨hplain, hbad, ⟨_, rfl, rfl, (all12 rfl rfl sx.rp.one rfl), hw.eff⟩⟩))
      refine sqM rfl rfl ?_
      refine sq_gy rfl rfl rfl ?_
      refine sqM rfl rfl ?_
      refine sq_gy rfl rfl rfl ?_
      refine sq_q (q_not' rfl) rfl ?_
      refine sqF rfl rfl rfl ?_
      refine sqK [0, 8, 14, 19, 24, 127] rfl ?_
      refine sc_cond_t rfl ?_
      refine scR ?_
      refine sq_q (q_loadK rfl Tryd.isAgg30 Tryd.sizeOf30 (i := 2) (vs := [.int .i64 ((bv bs 4 : Nat) : Int), .int .i64 ((bv bs 5 : Nat) : Int), .int .i64 ((bv bs 6 : Nat) : Int), .int .i64 ((bv bs 7 : Nat) : Int), .int .i64 ((bv bs 8 : Nat) : Int), .int .i64 ((hd bs).type : Int), .int .i64 ((hd bs).machine : Int), .int .u64 ((hd bs).entry : Int), (.slice (some ⟨b, 0, none⟩) (hd bs).shnum cr), .slice none 0 0, vP, .slice none 0 0]) rfl rfl) rfl ?_
      refine sq_m0 (m_stores (i := 1) (vs := [.int .i64 ((bv bs 4 : Nat) : Int), .int .i64 ((bv bs 5 : Nat) : Int), .int .i64 ((bv bs 6 : Nat) : Int), .int .i64 ((bv bs 7 : Nat) : Int), .int .i64 ((bv bs 8 : Nat) : Int), .int .i64 ((hd bs).type : Int), .int .i64 ((hd bs).machine : Int), .int .u64 ((hd bs).entry : Int), (.slice (some ⟨b, 0, none⟩) (hd bs).shnum cr), .slice none 0 0, vP, .slice none 0 0]) (l' := [.int .i64 ((bv bs 4 : Nat) : Int), .int .i64 ((bv bs 5 : Nat) : Int), .int .i64 ((bv bs 6 : Nat) : Int), .int .i64 ((bv bs 7 : Nat) : Int), .int .i64 ((bv bs 8 : Nat) : Int), .int .i64 ((hd bs).type : Int), .int .i64 ((hd bs).machine : Int), .int .u64 ((hd bs).entry : Int), (.slice (some ⟨b, 0, none⟩) (hd bs).shnum cr), .slice none 0 0, vP, .slice none 0 0]) rfl rfl Tryd.sizeOf30 rfl (all12 rfl rfl sx.rp.one rfl) rfl (by simp) rfl rfl (by intro h; omega)) (fun _ _ => ?_)
      iterate 2 refine sqA rfl rfl ?_
      refine sqK [14, 15, 16] rfl ?_
      refine sc_ret ?_
      iterate 2 refine se_then_ret ?_
      have hplain : Plain bs := plain_all ht.cp
      exact se_end (resc2 Tryd.results14 rfl rfl rfl Tryd.isAgg30 Tryd.sizeOf30 (i := 1) rfl rfl) (fun w' hw => .inr (.inl ⟨hplain, hbad, ⟨_, rfl, rfl, (all12 rfl rfl sx.rp.one rfl), hw.eff⟩⟩))
    refine sqT rfl rfl rfl ?_
    refine sqK [0, 6, 8, 14, 19, 106] rfl ?_
    refine sc_cond_f rfl ?_
    refine scS ?_
    iterate 2 refine scK [0, 8, 14] rfl ?_
    first
    | (subst hdone
       refine sc_mem (fun _ h => h.sublist (.cons_cons _ (.cons_cons _ (.cons_cons _ (.cons_cons _ (.cons _ (List.Sublist.refl _))))))) ?_
       refine hnext _ _ [_] ht ⟨fun _ => ⟨by omega, hcut, hi2⟩⟩ ⟨secsL_length, .inr ⟨b, cr, pr, rfl, ?_, hcr, hcr2, hpr, hmb⟩⟩
       rw [secsL_congr (f := nameOf bs) (g := nmI bs (hd bs).shnum) fun j hj => by rw [nmI, if_pos hj]])
    | (have hnn : named bs = false := by rw [named]; simp; omega
       rw [named_not hnn]
       refine sc_mem (fun _ h => h.sublist (.cons_cons _ (.cons_cons _ (.cons_cons _ (.cons_cons _ (.cons _ (List.Sublist.refl _))))))) ?_
       exact hnext _ _ [_] ht (nams_not hnn) ⟨secsL_length, .inr ⟨b, cr, pr, rfl, rfl, hcr, hcr2, hpr, hmb⟩⟩)
    | (refine sc_mem (fun _ h => h.sublist (.cons_cons _ (.cons_cons _ (.cons_cons _ (.cons_cons _ (List.sublist_append_right _ _)))))) ?_
       exact hnext _ _ _ ht (nams_not hnn) hR)
  have hnn : named bs = false := by rw [named]; simp; omega
  rw [named_not hnn] at hR
  refine sqM rfl rfl ?_
  iterate 2 refine sq_gn rfl rfl rfl rfl ?_
  refine sqF rfl rfl rfl ?_
  refine sqK [0, 6, 8, 14, 19, 106] rfl ?_
  refine sc_cond_f rfl ?_
  refine scS ?_
  iterate 2 refine scK [0, 8, 14] rfl ?_
  first
  | (subst hdone
     refine sc_mem (fun _ h => h.sublist (.cons_cons _ (.cons_cons _ (.cons_cons _ (.cons_cons _ (.cons _ (List.Sublist.refl _))))))) ?_
     refine hnext _ _ [_] ht ⟨fun _ => ⟨by omega, hcut, hi2⟩⟩ ⟨secsL_length, .inr ⟨b, cr, pr, rfl, ?_, hcr, hcr2, hpr, hmb⟩⟩
     rw [secsL_congr (f := nameOf bs) (g := nmI bs (hd bs).shnum) fun j hj => by rw [nmI, if_pos hj]])
  | (have hnn : named bs = false := by rw [named]; simp; omega
     rw [named_not hnn]
     refine sc_mem (fun _ h => h.sublist (.cons_cons _ (.cons_cons _ (.cons_cons _ (.cons_cons _ (.cons _ (List.Sublist.refl _))))))) ?_
     exact hnext _ _ [_] ht (nams_not hnn) ⟨secsL_length, .inr ⟨b, cr, pr, rfl, rfl, hcr, hcr2, hpr, hmb⟩⟩)
  | (refine sc_mem (fun _ h => h.sublist (.cons_cons _ (.cons_cons _ (.cons_cons _ (.cons_cons _ (List.sublist_append_right _ _)))))) ?_
     exact hnext _ _ _ ht (nams_not hnn) hR)

end Go.Proofs.YtgkjnkhoopcjgaaDoor
/- spec.sections: the parts. Conditions: the bytes lie in memory, at most 8192 of them; the tables and the names are right. -/
namespace Go.Proofs.YtgkjnkhoopcjgaaDoor
open Go.Sx
set_option maxRecDepth 100000
set_option maxHeartbeats 4000000

noncomputable def s7 : Code := s6.tl
def StS4 (bs : List UInt8) (ab ao c fb : Nat) (fv vP : Value) (l : List Value) (e : TypeId) (fr : Nat × Nat) (RP : MM) (m : Nat) (w : World) (wide big : Bool) : Prop := ∀ (N : Nat) (v1 v2 : Value) (vs : List Value) (R R2 : MM), TabS bs → NamS bs → RowOk w.heap.size 39 11 (secsL bs (nameOf bs) (hd bs).shnum) (hd bs).shnum v1 R →
 RowOk w.heap.size 22 1 vs (hd bs).shnum v2 R2 → Bss [(ab, .cells l.toArray e fr)] vs (partOf bs) → (∀ i, i < (hd bs).shnum → pre (strB (nameOf bs i)) zd = false) →
 Sc Tryd.prog s7 (bodyPost Tryd.prog Tryd.f14 (FindR bs [(ab, .cells l.toArray e fr)] m w)) 226 w E0 [(0, .slice (some ⟨ab, ao, none⟩) bs.length c), (8, .pointer (some ⟨w.heap.size, 0, none⟩)), (14, .pointer (some ⟨w.heap.size + 1, 0, none⟩))] N
  ((w.heap.size + 1, z12O) :: (w.heap.size, fndO bs v1 v2 vP (.slice none 0 0)) :: (ab, .cells l.toArray e fr) :: (fb, fldO fv wide big) :: (R ++ (R2 ++ RP)))
structure L3 where
 i : Nat
 N : Nat
 v2 : Value
 vs : List Value
 R : MM
structure L3F (bs : List UInt8) (am : MM) (m : Nat) (z : L3) : Prop where
 i : z.i ≤ (hd bs).shnum
 r : RowOk m 22 1 z.vs z.i z.v2 z.R
 b : Bss am z.vs (partOf bs)
 nz : ∀ j, j < z.i → pre (strB (nameOf bs j)) zd = false
theorem ByIn.slice {am : MM} {v : Value} {xs : List UInt8} (h : ByIn am v xs) : ∃ ad n c, v = .slice ad n c := by
 rcases h with ⟨_, ad, c, h⟩ | ⟨b, o, c, l, e, fr, h, _⟩
 ·
  exact ⟨_, _, _, h⟩
 ·
  exact ⟨_, _, _, h⟩
theorem part_cut {bs : List UInt8} {am : MM} {v : Value} {i : Nat} (ht : (srow bs i).type ≠ 8) (hc : CutOk bs (srow bs i).off (srow bs i).size) (h : ByIn am v (cut bs (srow bs i).off (srow bs i).size)) : ByIn am v (partOf bs i) := by
 rw [partOf, secC, if_neg ht, if_pos (by rw [cut_length hc]; exact Nat.le_refl _)]; exact h
theorem part_8 {bs : List UInt8} {am : MM} {i : Nat} (ht : (srow bs i).type = 8) : ByIn am (.slice none 0 0) (partOf bs i) := by
 refine .inl ⟨?_, none, 0, rfl⟩
 rw [partOf, secC, if_pos ht]; simp
theorem part_no {bs : List UInt8} {am : MM} {i : Nat} (ht : (srow bs i).type ≠ 8) (hc : ¬ CutOk bs (srow bs i).off (srow bs i).size) : ByIn am (.slice none 0 0) (partOf bs i) := by
 refine .inl ⟨?_, none, 0, rfl⟩
 rw [partOf, secC, if_neg ht, if_neg]
 intro h
 refine hc ?_
 unfold cut at h
 rw [List.length_take, List.length_drop] at h
 unfold CutOk
 omega

theorem s3_parts {bs : List UInt8} {ab ao c fb : Nat} {fv vP : Value} {l : List Value} {e : TypeId} {fr : Nat × Nat} {RP : MM} {m : Nat} {w : World} {wide big : Bool} (sx : Hs bs ab ao c fb fv vP l e fr RP m w wide big) (hnext : StS4 bs ab ao c fb fv vP l e fr RP m w wide big) : StS3 bs ab ao c fb fv vP l e fr RP m w wide big := by
 intro N v1 R ht hn hR
 obtain ⟨hl1, hl2, hl3, hl4, hl5, hl6, hl7, hl8, hl9, hl10, hl11⟩ := hd_lt bs
 have blen := sx.len
 have hcap := sx.cap
 have hcap2 := sx.cap2
 obtain ⟨ad, cp, rfl⟩ : ∃ ad cp, v1 = .slice ad (hd bs).shnum cp := by
  rcases hR.2 with ⟨h0, h, _⟩ | ⟨b, cap, _, h, _⟩
  ·
   exact ⟨none, 0, by rw [h, h0]⟩
  ·
   exact ⟨_, _, h⟩
 refine sc_known fun hnd1 hge1 hlt1 => ?_
 refine sc_seq ?_
 refine scR ?_
 refine sq_q (q_fieldj (j := 8) rfl Tryd.runUnderlying30 rfl Tryd.sizeOf26 rfl) rfl ?_
 refine sq_q (q_load1 rfl Tryd.isAgg26 (i := 1) rfl rfl) rfl ?_
 refine sq_q (q_len rfl Tryd.runUnderlying26) rfl ?_
 refine sqM rfl rfl ?_
 refine sqK [0, 8, 14, 155, 156, 157] rfl ?_
 refine sc_block ?_
 refine sc_loop (ι := L3) (fun z => [(0, .slice (some ⟨ab, ao, none⟩) bs.length c), (8, .pointer (some ⟨w.heap.size, 0, none⟩)), (14, .pointer (some ⟨w.heap.size + 1, 0, none⟩)), (155, .slice ad (hd bs).shnum cp), (156, .int .i64 ((hd bs).shnum : Int)), (157, .int .i64 (z.i : Int))]) (fun z => z.N) (fun z => (w.heap.size + 1, z12O) :: (w.heap.size, fndO bs (.slice ad (hd bs).shnum cp) z.v2 vP (.slice none 0 0)) :: (ab, .cells l.toArray e fr) :: (fb, fldO fv wide big) :: (R ++ (z.R ++ RP))) (L3F bs [(ab, .cells l.toArray e fr)] w.heap.size) (fun z => (hd bs).shnum - z.i) ⟨0, N, .slice none 0 0, [], []⟩ ⟨⟨Nat.zero_le _, ⟨rfl, .inl ⟨rfl, rfl, rfl⟩⟩, fun j v hj => by simp at hj, fun j hj => absurd hj (Nat.not_lt_zero _)⟩, ⟨rfl, rfl, rfl, rfl, rfl, rfl, trivial⟩, rfl, fun _ h => h⟩ ?_
 rintro ⟨i, N3, v2, vs, R2⟩ ⟨hi1, hr2, hbs, hnz⟩
 dsimp only at hi1 hr2 hbs hnz
 change Sc _ _ _ _ _ _ [(0, .slice (some ⟨ab, ao, none⟩) bs.length c), (8, .pointer (some ⟨w.heap.size, 0, none⟩)), (14, .pointer (some ⟨w.heap.size + 1, 0, none⟩)), (155, .slice ad (hd bs).shnum cp), (156, .int .i64 ((hd bs).shnum : Int)), (157, .int .i64 (i : Int))] N3 ((w.heap.size + 1, z12O) :: (w.heap.size, fndO bs (.slice ad (hd bs).shnum cp) v2 vP (.slice none 0 0)) :: (ab, .cells l.toArray e fr) :: (fb, fldO fv wide big) :: (R ++ (R2 ++ RP)))
 refine sc_known fun hnd3 hge3 hlt3 => ?_
 refine scR ?_
 refine sq_split (q_lss rfl rfl) rfl (fun h28_0 => ?_) (fun h28_0 => ?_)
 ·
  have hlt : i < (hd bs).shnum := by omega
  obtain ⟨q1, q2, q3, q4, q5, q6, q7, q8, q9, q10⟩ := (srowAt_lt _ _ _ _ : (srow bs i).Lt)
  obtain ⟨b, cr, pr, hveq, rfl, hcr, hcr2, hpr, hmb⟩ := hR.2.resolve_left (fun h => by have := h.1; omega)
  obtain ⟨rfl, -, rfl⟩ := Value.slice.inj hveq
  refine sqZ ?_
  refine sc_seq ?_
  refine sc_cond_t rfl ?_
  refine scS ?_
  refine scK [0, 8, 14, 155, 156, 157] rfl ?_
  refine sc_seq ?_
  refine sc_block ?_
  refine scR ?_
  refine sq_q (q_index (j := i * 11) rfl rfl Tryd.runUnderlying26 Tryd.sizeOf39 ⟨by omega, by omega⟩ (by rw [Int.toNat_natCast]; omega)) rfl ?_
  refine sq_q (q_loadM rfl Tryd.isAgg39 Tryd.sizeOf39 (i := 4) rfl (by rw [List.length_append, secsL_length]; omega) (sec_at hlt)) rfl ?_
  refine sq_m (m_alloc (l := [.string ⟨#[]⟩, .int .i64 0, .int .i64 0, .int .u64 0, .int .u64 0, .int .u64 0, .int .i64 0, .int .i64 0, .int .u64 0, .int .u64 0, .int .u64 0]) Tryd.zeroValue39 rfl) rfl (fun _ _ => ?_)
  refine sq_m0 (m_stores (i := 0) (vs := secV (nameOf bs i) (srow bs i)) (l' := secV (nameOf bs i) (srow bs i)) rfl rfl Tryd.sizeOf39 rfl rfl rfl (by simp) rfl rfl (by intro h; omega)) (fun _ _ => ?_)
  refine sqK [0, 8, 14, 30, 155, 156, 157] rfl ?_
  refine sc_seq ?_
  refine scR ?_
  refine sq_q (q_fieldj (j := 0) rfl Tryd.runUnderlying39 rfl Tryd.sizeOf9 rfl) rfl ?_
  refine sq_q (q_load1 rfl Tryd.isAgg9 (i := 0) rfl rfl) rfl ?_
  refine sq_splitb (q_call (args1 rfl) Tryd.call21 (fun w hw => zip21)) rfl (fun h30_2 => ?_) (fun h30_2 => ?_)
  ·
   have _tok := trivial
   refine sqK [0, 8, 14, 30, 155, 156, 157, 163] rfl ?_
   refine sc_cond_t rfl ?_
   refine scR ?_
   refine sq_q (q_loadK rfl Tryd.isAgg30 Tryd.sizeOf30 (i := 2) (vs := [.int .i64 ((bv bs 4 : Nat) : Int), .int .i64 ((bv bs 5 : Nat) : Int), .int .i64 ((bv bs 6 : Nat) : Int), .int .i64 ((bv bs 7 : Nat) : Int), .int .i64 ((bv bs 8 : Nat) : Int), .int .i64 ((hd bs).type : Int), .int .i64 ((hd bs).machine : Int), .int .u64 ((hd bs).entry : Int), (.slice (some ⟨b, 0, none⟩) (hd bs).shnum cp), v2, vP, .slice none 0 0]) rfl rfl) rfl ?_
   refine sq_m0 (m_stores (i := 1) (vs := [.int .i64 ((bv bs 4 : Nat) : Int), .int .i64 ((bv bs 5 : Nat) : Int), .int .i64 ((bv bs 6 : Nat) : Int), .int .i64 ((bv bs 7 : Nat) : Int), .int .i64 ((bv bs 8 : Nat) : Int), .int .i64 ((hd bs).type : Int), .int .i64 ((hd bs).machine : Int), .int .u64 ((hd bs).entry : Int), (.slice (some ⟨b, 0, none⟩) (hd bs).shnum cp), v2, vP, .slice none 0 0]) (l' := [.int .i64 ((bv bs 4 : Nat) : Int), .int .i64 ((bv bs 5 : Nat) : Int), .int .i64 ((bv bs 6 : Nat) : Int), .int .i64 ((bv bs 7 : Nat) : Int), .int .i64 ((bv bs 8 : Nat) : Int), .int .i64 ((hd bs).type : Int), .int .i64 ((hd bs).machine : Int), .int .u64 ((hd bs).entry : Int), (.slice (some ⟨b, 0, none⟩) (hd bs).shnum cp), v2, vP, .slice none 0 0]) rfl rfl Tryd.sizeOf30 rfl (all12 rfl hr2.one sx.rp.one rfl) rfl (by simp) rfl rfl (by intro h; omega)) (fun _ _ => ?_)
   iterate 2 refine sqA rfl rfl ?_
   refine sqK [14, 15, 16] rfl ?_
   refine sc_ret ?_
   refine se_then_ret ?_
   refine se_block_ret ?_
   iterate 2 refine se_then_ret ?_
   refine se_block_ret ?_
   refine se_then_ret ?_
   exact se_end (resc2 Tryd.results14 rfl rfl rfl Tryd.isAgg30 Tryd.sizeOf30 (i := 1) rfl rfl) (fun w' hw => .inl ⟨_, _, rfl, rfl, (all12 rfl hr2.one sx.rp.one rfl), hw.eff⟩)
  have hnz1 : pre (strB (nameOf bs i)) zd = false := h30_2
  refine sqK [0, 8, 14, 30, 155, 156, 157, 163] rfl ?_
  refine sc_cond_f rfl ?_
  refine scS ?_
  refine scK [0, 8, 14, 30, 155, 156, 157] rfl ?_
  refine scR ?_
  refine sqM rfl rfl ?_
  refine sq_q (q_fieldj (j := 4) rfl Tryd.runUnderlying39 rfl Tryd.sizeOf23 rfl) rfl ?_
  refine sq_q (q_load1 rfl Tryd.isAgg23 (i := 0) rfl rfl) rfl ?_
  refine sq_q (q_fieldj (j := 10) rfl Tryd.runUnderlying39 rfl Tryd.sizeOf23 rfl) rfl ?_
  refine sq_q (q_load1 rfl Tryd.isAgg23 (i := 0) rfl rfl) rfl ?_
  refine sq_m (cut_inv (a := (srow bs i).off) (n := (srow bs i).size) hcap hcap2 q5 q6 rfl rfl rfl) rfl (fun q hq => ?_)
  obtain ⟨v31, b31⟩ := q
  have hcb := cut_by (e := e) (fr := fr) hcap hcap2 sx.at_ sx.all hq
  clear hq
  rcases hcb with ⟨hb1, hcut, hv1, hby⟩ | ⟨hb1, hcut, hv1⟩ <;> dsimp only at hb1 hv1 <;> subst hb1
  ·
   dsimp only at hby
   obtain ⟨ad31, n31, c31, rfl⟩ := hby.slice
   have hpb8 := fun h => part_cut (i := i) h hcut hby
   refine sqM rfl rfl ?_
   iterate 2 refine sq_q (q_extract rfl rfl) rfl ?_
   iterate 2 refine sqA rfl rfl ?_
   refine sqK [0, 8, 14, 30, 31, 155, 156, 157] rfl ?_
   refine sc_seq ?_
   refine scR ?_
   refine sq_q (q_fieldj (j := 1) rfl Tryd.runUnderlying39 rfl Tryd.sizeOf3 rfl) rfl ?_
   refine sq_q (q_load1 rfl Tryd.isAgg3 (i := 0) rfl rfl) rfl ?_
   refine sq_split (q_eql rfl rfl) rfl (fun h33_2 => ?_) (fun h33_2 => ?_)
   ·
    have hpb := part_8 (bs := bs) (am := [(ab, .cells l.toArray e fr)]) (i := i) (by omega)
    clear hv1
    have hv1 : (Value.slice none 0 0).oneCell' = true := rfl
    refine sqK [0, 8, 14, 31, 155, 156, 157, 176] rfl ?_
    refine sc_cond_t rfl ?_
    refine sc_region ?_
    refine sqA rfl rfl ?_
    refine sqK [0, 8, 14, 31, 155, 156, 157] rfl ?_
    refine sc_region ?_
    refine sq_q (q_fieldj (j := 9) rfl Tryd.runUnderlying30 rfl Tryd.sizeOf27 rfl) rfl ?_
    refine sq_q (q_load1 rfl Tryd.isAgg27 (i := 2) rfl rfl) rfl ?_
    refine sqM rfl rfl ?_
    refine sq_m (m_lit (vs := [(0, _)]) ⟨rfl, rfl, trivial⟩ (e := 22) (l := [.slice none 0 0]) (fun w => by kernel_rfl)) rfl (fun _ _ => ?_)
    refine sq_m (m_app_any (i := Tryd.t22) (z := .slice none 0 0) (k := 1) (R := R2) (rest := ([(N3, .cells (secV (nameOf bs i) (srow bs i)).toArray 39 (0, 0)), (w.heap.size + 1, z12O), (w.heap.size, fndO bs (.slice (some ⟨b, 0, none⟩) (hd bs).shnum cp) v2 vP (.slice none 0 0)), (ab, .cells l.toArray e fr), (fb, fldO fv wide big), (b, .cells (secsL bs (nameOf bs) (hd bs).shnum ++ pr).toArray 39 (0, 0))] ++ RP)) (news := [.slice none 0 0]) (out := fun R' => [(N3, .cells (secV (nameOf bs i) (srow bs i)).toArray 39 (0, 0)), (w.heap.size + 1, z12O), (w.heap.size, fndO bs (.slice (some ⟨b, 0, none⟩) (hd bs).shnum cp) v2 vP (.slice none 0 0)), (ab, .cells l.toArray e fr), (fb, fldO fv wide big), (b, .cells (secsL bs (nameOf bs) (hd bs).shnum ++ pr).toArray 39 (0, 0))] ++ (R' ++ RP)) hr2 rfl rfl (.cons _ (List.perm_append_comm_assoc [(N3, .cells (secV (nameOf bs i) (srow bs i)).toArray 39 (0, 0)), (w.heap.size + 1, z12O), (w.heap.size, fndO bs (.slice (some ⟨b, 0, none⟩) (hd bs).shnum cp) v2 vP (.slice none 0 0)), (ab, .cells l.toArray e fr), (fb, fldO fv wide big), (b, .cells (secsL bs (nameOf bs) (hd bs).shnum ++ pr).toArray 39 (0, 0))] R2 RP)) (fun R' => List.perm_append_comm_assoc R' _ RP) Tryd.underlying27 (by kernel_rfl) (by kernel_rfl) t22_size (by kernel_rfl) rfl (by simp [hv1]) (by omega) (bytes_fit (by omega) t22_bytes) (by intro b h1 h2; omega)) rfl (fun y hy => ?_)
    refine sq_q (q_fieldj (j := 9) rfl Tryd.runUnderlying30 rfl Tryd.sizeOf27 rfl) rfl ?_
    refine sq_m0 (m_store rfl rfl Tryd.sizeOf27 hy.2.one (i := 2) rfl rfl rfl (by intro h; omega)) (fun _ _ => ?_)
    refine sq_nil ?_
    refine se_block ?_
    refine se_seq ?_
    refine scK [0, 8, 14, 155, 156, 157] rfl ?_
    refine sc_region ?_
    refine sq_q (q_add rfl rfl (w_i64 (by omega) (by omega))) rfl ?_
    refine sqM rfl rfl ?_
    refine sq_nil ?_
    refine se_loop ⟨i + 1, _, _, _, _⟩ (by dsimp only; omega) ⟨by dsimp only; omega, hy.2, hbs.snoc (by have := hr2.1; omega) (fun _ h => h) hpb, fun j hj => (by
     by_cases hji : j = i
     ·
      subst hji; exact hnz1
     ·
      exact hnz j (by dsimp only at hj; omega))⟩ ⟨rfl, rfl, rfl, rfl, rfl, rfl, trivial⟩ (fun _ h => h.sublist (.cons _ (List.Sublist.refl _)))
   have hpb := hpb8 (by omega)
   refine sqK [0, 8, 14, 31, 155, 156, 157, 176] rfl ?_
   refine sc_cond_f rfl ?_
   refine scS ?_
   refine scK [0, 8, 14, 31, 155, 156, 157] rfl ?_
   refine sc_region ?_
   refine sq_q (q_fieldj (j := 9) rfl Tryd.runUnderlying30 rfl Tryd.sizeOf27 rfl) rfl ?_
   refine sq_q (q_load1 rfl Tryd.isAgg27 (i := 2) rfl rfl) rfl ?_
   refine sqM rfl rfl ?_
   refine sq_m (m_lit (vs := [(0, _)]) ⟨rfl, rfl, trivial⟩ (e := 22) (l := [.slice ad31 n31 c31]) (fun w => by kernel_rfl)) rfl (fun _ _ => ?_)
   refine sq_m (m_app_any (i := Tryd.t22) (z := .slice none 0 0) (k := 1) (R := R2) (rest := ([(N3, .cells (secV (nameOf bs i) (srow bs i)).toArray 39 (0, 0)), (w.heap.size + 1, z12O), (w.heap.size, fndO bs (.slice (some ⟨b, 0, none⟩) (hd bs).shnum cp) v2 vP (.slice none 0 0)), (ab, .cells l.toArray e fr), (fb, fldO fv wide big), (b, .cells (secsL bs (nameOf bs) (hd bs).shnum ++ pr).toArray 39 (0, 0))] ++ RP)) (news := [.slice ad31 n31 c31]) (out := fun R' => [(N3, .cells (secV (nameOf bs i) (srow bs i)).toArray 39 (0, 0)), (w.heap.size + 1, z12O), (w.heap.size, fndO bs (.slice (some ⟨b, 0, none⟩) (hd bs).shnum cp) v2 vP (.slice none 0 0)), (ab, .cells l.toArray e fr), (fb, fldO fv wide big), (b, .cells (secsL bs (nameOf bs) (hd bs).shnum ++ pr).toArray 39 (0, 0))] ++ (R' ++ RP)) hr2 rfl rfl (.cons _ (List.perm_append_comm_assoc [(N3, .cells (secV (nameOf bs i) (srow bs i)).toArray 39 (0, 0)), (w.heap.size + 1, z12O), (w.heap.size, fndO bs (.slice (some ⟨b, 0, none⟩) (hd bs).shnum cp) v2 vP (.slice none 0 0)), (ab, .cells l.toArray e fr), (fb, fldO fv wide big), (b, .cells (secsL bs (nameOf bs) (hd bs).shnum ++ pr).toArray 39 (0, 0))] R2 RP)) (fun R' => List.perm_append_comm_assoc R' _ RP) Tryd.underlying27 (by kernel_rfl) (by kernel_rfl) t22_size (by kernel_rfl) rfl (by simp [hv1]) (by omega) (bytes_fit (by omega) t22_bytes) (by intro b h1 h2; omega)) rfl (fun y hy => ?_)
   refine sq_q (q_fieldj (j := 9) rfl Tryd.runUnderlying30 rfl Tryd.sizeOf27 rfl) rfl ?_
   refine sq_m0 (m_store rfl rfl Tryd.sizeOf27 hy.2.one (i := 2) rfl rfl rfl (by intro h; omega)) (fun _ _ => ?_)
   refine sq_nil ?_
   refine se_block ?_
   refine se_seq ?_
   refine scK [0, 8, 14, 155, 156, 157] rfl ?_
   refine sc_region ?_
   refine sq_q (q_add rfl rfl (w_i64 (by omega) (by omega))) rfl ?_
   refine sqM rfl rfl ?_
   refine sq_nil ?_
   refine se_loop ⟨i + 1, _, _, _, _⟩ (by dsimp only; omega) ⟨by dsimp only; omega, hy.2, hbs.snoc (by have := hr2.1; omega) (fun _ h => h) hpb, fun j hj => (by
    by_cases hji : j = i
    ·
     subst hji; exact hnz1
    ·
     exact hnz j (by dsimp only at hj; omega))⟩ ⟨rfl, rfl, rfl, rfl, rfl, rfl, trivial⟩ (fun _ h => h.sublist (.cons _ (List.Sublist.refl _)))
  subst hv1
  have hv1 : (Value.slice none 0 0).oneCell' = true := rfl
  have hpb8 := fun h => part_no (am := [(ab, .cells l.toArray e fr)]) (i := i) h hcut
  refine sqM rfl rfl ?_
  iterate 2 refine sq_q (q_extract rfl rfl) rfl ?_
  iterate 2 refine sqA rfl rfl ?_
  refine sqK [0, 8, 14, 30, 31, 155, 156, 157] rfl ?_
  refine sc_seq ?_
  refine scR ?_
  refine sq_q (q_fieldj (j := 1) rfl Tryd.runUnderlying39 rfl Tryd.sizeOf3 rfl) rfl ?_
  refine sq_q (q_load1 rfl Tryd.isAgg3 (i := 0) rfl rfl) rfl ?_
  refine sq_split (q_eql rfl rfl) rfl (fun h33_2 => ?_) (fun h33_2 => ?_)
  ·
   have hpb := part_8 (bs := bs) (am := [(ab, .cells l.toArray e fr)]) (i := i) (by omega)
   clear hv1
   have hv1 : (Value.slice none 0 0).oneCell' = true := rfl
   refine sqK [0, 8, 14, 31, 155, 156, 157, 176] rfl ?_
   refine sc_cond_t rfl ?_
   refine sc_region ?_
   refine sqA rfl rfl ?_
   refine sqK [0, 8, 14, 31, 155, 156, 157] rfl ?_
   refine sc_region ?_
   refine sq_q (q_fieldj (j := 9) rfl Tryd.runUnderlying30 rfl Tryd.sizeOf27 rfl) rfl ?_
   refine sq_q (q_load1 rfl Tryd.isAgg27 (i := 2) rfl rfl) rfl ?_
   refine sqM rfl rfl ?_
   refine sq_m (m_lit (vs := [(0, _)]) ⟨rfl, rfl, trivial⟩ (e := 22) (l := [.slice none 0 0]) (fun w => by kernel_rfl)) rfl (fun _ _ => ?_)
   refine sq_m (m_app_any (i := Tryd.t22) (z := .slice none 0 0) (k := 1) (R := R2) (rest := ([(N3, .cells (secV (nameOf bs i) (srow bs i)).toArray 39 (0, 0)), (w.heap.size + 1, z12O), (w.heap.size, fndO bs (.slice (some ⟨b, 0, none⟩) (hd bs).shnum cp) v2 vP (.slice none 0 0)), (ab, .cells l.toArray e fr), (fb, fldO fv wide big), (b, .cells (secsL bs (nameOf bs) (hd bs).shnum ++ pr).toArray 39 (0, 0))] ++ RP)) (news := [.slice none 0 0]) (out := fun R' => [(N3, .cells (secV (nameOf bs i) (srow bs i)).toArray 39 (0, 0)), (w.heap.size + 1, z12O), (w.heap.size, fndO bs (.slice (some ⟨b, 0, none⟩) (hd bs).shnum cp) v2 vP (.slice none 0 0)), (ab, .cells l.toArray e fr), (fb, fldO fv wide big), (b, .cells (secsL bs (nameOf bs) (hd bs).shnum ++ pr).toArray 39 (0, 0))] ++ (R' ++ RP)) hr2 rfl rfl (.cons _ (List.perm_append_comm_assoc [(N3, .cells (secV (nameOf bs i) (srow bs i)).toArray 39 (0, 0)), (w.heap.size + 1, z12O), (w.heap.size, fndO bs (.slice (some ⟨b, 0, none⟩) (hd bs).shnum cp) v2 vP (.slice none 0 0)), (ab, .cells l.toArray e fr), (fb, fldO fv wide big), (b, .cells (secsL bs (nameOf bs) (hd bs).shnum ++ pr).toArray 39 (0, 0))] R2 RP)) (fun R' => List.perm_append_comm_assoc R' _ RP) Tryd.underlying27 (by kernel_rfl) (by kernel_rfl) t22_size (by kernel_rfl) rfl (by simp [hv1]) (by omega) (bytes_fit (by omega) t22_bytes) (by intro b h1 h2; omega)) rfl (fun y hy => ?_)
   refine sq_q (q_fieldj (j := 9) rfl Tryd.runUnderlying30 rfl Tryd.sizeOf27 rfl) rfl ?_
   refine sq_m0 (m_store rfl rfl Tryd.sizeOf27 hy.2.one (i := 2) rfl rfl rfl (by intro h; omega)) (fun _ _ => ?_)
   refine sq_nil ?_
   refine se_block ?_
   refine se_seq ?_
   refine scK [0, 8, 14, 155, 156, 157] rfl ?_
   refine sc_region ?_
   refine sq_q (q_add rfl rfl (w_i64 (by omega) (by omega))) rfl ?_
   refine sqM rfl rfl ?_
   refine sq_nil ?_
   refine se_loop ⟨i + 1, _, _, _, _⟩ (by dsimp only; omega) ⟨by dsimp only; omega, hy.2, hbs.snoc (by have := hr2.1; omega) (fun _ h => h) hpb, fun j hj => (by
    by_cases hji : j = i
    ·
     subst hji; exact hnz1
    ·
     exact hnz j (by dsimp only at hj; omega))⟩ ⟨rfl, rfl, rfl, rfl, rfl, rfl, trivial⟩ (fun _ h => h.sublist (.cons _ (List.Sublist.refl _)))
  have hpb := hpb8 (by omega)
  refine sqK [0, 8, 14, 31, 155, 156, 157, 176] rfl ?_
  refine sc_cond_f rfl ?_
  refine scS ?_
  refine scK [0, 8, 14, 31, 155, 156, 157] rfl ?_
  refine sc_region ?_
  refine sq_q (q_fieldj (j := 9) rfl Tryd.runUnderlying30 rfl Tryd.sizeOf27 rfl) rfl ?_
  refine sq_q (q_load1 rfl Tryd.isAgg27 (i := 2) rfl rfl) rfl ?_
  refine sqM rfl rfl ?_
  refine sq_m (m_lit (vs := [(0, _)]) ⟨rfl, rfl, trivial⟩ (e := 22) (l := [.slice none 0 0]) (fun w => by kernel_rfl)) rfl (fun _ _ => ?_)
  refine sq_m (m_app_any (i := Tryd.t22) (z := .slice none 0 0) (k := 1) (R := R2) (rest := ([(N3, .cells (secV (nameOf bs i) (srow bs i)).toArray 39 (0, 0)), (w.heap.size + 1, z12O), (w.heap.size, fndO bs (.slice (some ⟨b, 0, none⟩) (hd bs).shnum cp) v2 vP (.slice none 0 0)), (ab, .cells l.toArray e fr), (fb, fldO fv wide big), (b, .cells (secsL bs (nameOf bs) (hd bs).shnum ++ pr).toArray 39 (0, 0))] ++ RP)) (news := [.slice none 0 0]) (out := fun R' => [(N3, .cells (secV (nameOf bs i) (srow bs i)).toArray 39 (0, 0)), (w.heap.size + 1, z12O), (w.heap.size, fndO bs (.slice (some ⟨b, 0, none⟩) (hd bs).shnum cp) v2 vP (.slice none 0 0)), (ab, .cells l.toArray e fr), (fb, fldO fv wide big), (b, .cells (secsL bs (nameOf bs) (hd bs).shnum ++ pr).toArray 39 (0, 0))] ++ (R' ++ RP)) hr2 rfl rfl (.cons _ (List.perm_append_comm_assoc [(N3, .cells (secV (nameOf bs i) (srow bs i)).toArray 39 (0, 0)), (w.heap.size + 1, z12O), (w.heap.size, fndO bs (.slice (some ⟨b, 0, none⟩) (hd bs).shnum cp) v2 vP (.slice none 0 0)), (ab, .cells l.toArray e fr), (fb, fldO fv wide big), (b, .cells (secsL bs (nameOf bs) (hd bs).shnum ++ pr).toArray 39 (0, 0))] R2 RP)) (fun R' => List.perm_append_comm_assoc R' _ RP) Tryd.underlying27 (by kernel_rfl) (by kernel_rfl) t22_size (by kernel_rfl) rfl (by simp [hv1]) (by omega) (bytes_fit (by omega) t22_bytes) (by intro b h1 h2; omega)) rfl (fun y hy => ?_)
  refine sq_q (q_fieldj (j := 9) rfl Tryd.runUnderlying30 rfl Tryd.sizeOf27 rfl) rfl ?_
  refine sq_m0 (m_store rfl rfl Tryd.sizeOf27 hy.2.one (i := 2) rfl rfl rfl (by intro h; omega)) (fun _ _ => ?_)
  refine sq_nil ?_
  refine se_block ?_
  refine se_seq ?_
  refine scK [0, 8, 14, 155, 156, 157] rfl ?_
  refine sc_region ?_
  refine sq_q (q_add rfl rfl (w_i64 (by omega) (by omega))) rfl ?_
  refine sqM rfl rfl ?_
  refine sq_nil ?_
  refine se_loop ⟨i + 1, _, _, _, _⟩ (by dsimp only; omega) ⟨by dsimp only; omega, hy.2, hbs.snoc (by have := hr2.1; omega) (fun _ h => h) hpb, fun j hj => (by
   by_cases hji : j = i
   ·
    subst hji; exact hnz1
   ·
    exact hnz j (by dsimp only at hj; omega))⟩ ⟨rfl, rfl, rfl, rfl, rfl, rfl, trivial⟩ (fun _ h => h.sublist (.cons _ (List.Sublist.refl _)))
 have hdone : i = (hd bs).shnum := by omega
 refine sqZ ?_
 refine sc_seq ?_
 refine sc_cond_f rfl ?_
 refine sc_exit ?_
 iterate 2 refine se_then_exit ?_
 refine se_block_hit ?_
 refine se_seq ?_
 iterate 2 refine scK [0, 8, 14] rfl ?_
 subst hdone
 exact hnext _ _ _ _ _ _ ht hn hR hr2 hbs hnz

end Go.Proofs.YtgkjnkhoopcjgaaDoor
/- spec.sections: its entry. Conditions: the bytes lie in memory, at most 8192 of them; the header and the programs are right. -/
namespace Go.Proofs.YtgkjnkhoopcjgaaDoor
open Go.Sx
set_option maxRecDepth 100000
set_option maxHeartbeats 4000000

theorem permL {p : Nat × Obj} {F W : MM} : (p :: (F ++ W)).Perm (F ++ ([p] ++ ([] ++ W))) := by
 simp only [List.nil_append, List.cons_append]
 exact (List.perm_middle).symm

theorem sec14 {bs : List UInt8} {ab ao c fb : Nat} {fv vP : Value} {l : List Value} {e : TypeId} {fr : Nat × Nat} {RP : MM} {m : Nat} {w : World} {wide big : Bool} (sx : Hs bs ab ao c fb fv vP l e fr RP m w wide big) (hnext : StS2 bs ab ao c fb fv vP l e fr RP m w wide big) :
  Calls Tryd.prog 14 #[.slice (some ⟨ab, ao, none⟩) bs.length c, .agg [.int .i64 ((bv bs 4 : Nat) : Int), .int .i64 ((bv bs 5 : Nat) : Int), .int .i64 ((bv bs 6 : Nat) : Int), .int .i64 ((bv bs 7 : Nat) : Int), .int .i64 ((bv bs 8 : Nat) : Int), .int .i64 ((hd bs).type : Int), .int .i64 ((hd bs).machine : Int), .int .u64 ((hd bs).entry : Int), (.slice none 0 0), (.slice none 0 0), vP, (.slice none 0 0)].toArray, .pointer (some ⟨fb, 0, none⟩), .int .u64 ((hd bs).shoff : Int), .int .u64 ((hd bs).shnum : Int), .int .u64 ((hd bs).shes : Int), .int .u64 ((hd bs).names : Int)] w (FindR bs [(ab, .cells l.toArray e fr)] m w) := by
 obtain ⟨hl1, hl2, hl3, hl4, hl5, hl6, hl7, hl8, hl9, hl10, hl11⟩ := hd_lt bs
 have blen := sx.len
 have hcap := sx.cap
 have hcap2 := sx.cap2
 have hshe : 0 < (hd bs).shnum → wd wide 40 64 ≤ (hd bs).shes := fun h => sx.wd ▸ sx.pre.head.she h
 have hmul : (hd bs).shnum * (hd bs).shes < 4294967296 := by
  have := Nat.mul_le_mul (show (hd bs).shnum ≤ 65535 by omega) (show (hd bs).shes ≤ 65535 by omega)
  omega
 refine enter (E := E0) Tryd.func14 rfl Tryd.ntmps14 (Nat.le_of_ble_eq_true rfl) [(0, _), (1, _), (2, _), (3, _), (4, _), (5, _), (6, _)] (AOk.get («as» := [_, _, _, _, _, _, _]) ⟨rfl, rfl, rfl, rfl, rfl, rfl, rfl, trivial⟩) ((ab, .cells l.toArray e fr) :: (fb, fldO fv wide big) :: RP) sx.has sx.nd ?_
 refine scR ?_
 refine sq_m (m_box (l := [.int .i64 ((bv bs 4 : Nat) : Int), .int .i64 ((bv bs 5 : Nat) : Int), .int .i64 ((bv bs 6 : Nat) : Int), .int .i64 ((bv bs 7 : Nat) : Int), .int .i64 ((bv bs 8 : Nat) : Int), .int .i64 ((hd bs).type : Int), .int .i64 ((hd bs).machine : Int), .int .u64 ((hd bs).entry : Int), (.slice none 0 0), (.slice none 0 0), vP, (.slice none 0 0)]) rfl rfl) rfl (fun _ _ => ?_)
 refine sq_m (m_alloc (l := [.int .i64 0, .int .i64 0, .int .i64 0, .int .i64 0, .int .i64 0, .int .i64 0, .int .i64 0, .int .u64 0, .slice none 0 0, .slice none 0 0, .slice none 0 0, .slice none 0 0]) Tryd.zeroValue30 rfl) rfl (fun _ _ => ?_)
 iterate 2 refine sqA rfl rfl ?_
 refine sqKR [0, 2, 3, 4, 5, 6, 8, 14] rfl ?_
 iterate 4 refine sqM rfl rfl ?_
 refine sq_q (q_mul (r := (((hd bs).shnum * (hd bs).shes : Nat) : Int)) rfl rfl (w_u64e (by rw [Int.natCast_mul]) (by omega) (by omega))) rfl ?_
 refine sq_m (cut_inv hcap hcap2 (by omega) (by omega) rfl rfl rfl) rfl (fun q hq => ?_)
 obtain ⟨v, b⟩ := q
 dsimp only at hq
 rcases hq with ⟨hq1, rfl, rfl⟩ | ⟨hq1, hq2, rfl, rfl⟩ | ⟨hq1, hq2, rfl, rfl⟩
 ·
  have hcut : CutOk bs (hd bs).shoff ((hd bs).shnum * (hd bs).shes) := .inl hq1
  have hR : 0 < (hd bs).shnum → (Value.slice none 0 0) = Value.slice (some ⟨ab, ao + (hd bs).shoff, none⟩) ((hd bs).shnum * (hd bs).shes) (c - (hd bs).shoff) := fun h => by
   have h1 := hshe h
   have h2 : 40 ≤ wd wide 40 64 := by cases wide <;> decide
   rcases Nat.mul_eq_zero.1 hq1 with h3 | h3 <;> omega
  refine sqM rfl rfl ?_
  iterate 2 refine sq_q (q_extract rfl rfl) rfl ?_
  iterate 2 refine sqA rfl rfl ?_
  refine sqK [0, 2, 4, 5, 6, 8, 14, 17, 18] rfl ?_
  refine sc_seq ?_
  refine scR ?_
  refine sqM rfl rfl ?_
  refine sq_q (q_not' rfl) rfl ?_
  refine sqK [0, 2, 4, 5, 6, 8, 14, 17, 48] rfl ?_
  refine sc_cond_f rfl ?_
  refine scS ?_
  refine scK [0, 2, 4, 5, 6, 8, 14, 17] rfl ?_
  refine scR ?_
  refine sq_m (m_lit (vs := []) trivial (e := 23) (l := []) (fun w => by kernel_rfl)) rfl (fun _ _ => ?_)
  refine sqA rfl rfl ?_
  refine sqK [0, 2, 4, 5, 6, 8, 14, 17, 19] rfl ?_
  refine scK [0, 2, 4, 5, 6, 8, 14, 17, 19] rfl ?_
  refine sc_mem (ms := _ :: _ :: _ :: _ :: ([_] ++ ([] ++ RP))) (fun w1 h => h.perm (permL (F := [_, _, _, _])).symm) ?_
  exact s1_loop sx hnext hcut hR _ [_] _ ⟨rfl, .inr ⟨w.heap.size + 1 + 1, 0, [], rfl, rfl, Nat.le_refl _, Nat.zero_le _, rfl, by omega⟩⟩
 ·
  have hbad : ¬ Good bs := fun hg => by
   rcases hg.scut with h | h
   ·
    exact hq1 h
   ·
    exact hq2 h
  have hplain : Plain bs := fun hh hc _ _ => by
   exact absurd ‹CutOk bs (hd bs).shoff _› (by rintro (h | h) <;> omega)
  refine sqM rfl rfl ?_
  iterate 2 refine sq_q (q_extract rfl rfl) rfl ?_
  iterate 2 refine sqA rfl rfl ?_
  refine sqK [0, 2, 4, 5, 6, 8, 14, 17, 18] rfl ?_
  refine sc_seq ?_
  refine scR ?_
  refine sqM rfl rfl ?_
  refine sq_q (q_not' rfl) rfl ?_
  refine sqK [0, 2, 4, 5, 6, 8, 14, 17, 48] rfl ?_
  refine sc_cond_t rfl ?_
  refine scR ?_
  refine sq_q (q_loadK rfl Tryd.isAgg30 Tryd.sizeOf30 (i := 1) (vs := [.int .i64 ((bv bs 4 : Nat) : Int), .int .i64 ((bv bs 5 : Nat) : Int), .int .i64 ((bv bs 6 : Nat) : Int), .int .i64 ((bv bs 7 : Nat) : Int), .int .i64 ((bv bs 8 : Nat) : Int), .int .i64 ((hd bs).type : Int), .int .i64 ((hd bs).machine : Int), .int .u64 ((hd bs).entry : Int), (.slice none 0 0), (.slice none 0 0), vP, (.slice none 0 0)]) rfl rfl) rfl ?_
  refine sq_m0 (m_stores (i := 0) (vs := [.int .i64 ((bv bs 4 : Nat) : Int), .int .i64 ((bv bs 5 : Nat) : Int), .int .i64 ((bv bs 6 : Nat) : Int), .int .i64 ((bv bs 7 : Nat) : Int), .int .i64 ((bv bs 8 : Nat) : Int), .int .i64 ((hd bs).type : Int), .int .i64 ((hd bs).machine : Int), .int .u64 ((hd bs).entry : Int), (.slice none 0 0), (.slice none 0 0), vP, (.slice none 0 0)]) (l' := [.int .i64 ((bv bs 4 : Nat) : Int), .int .i64 ((bv bs 5 : Nat) : Int), .int .i64 ((bv bs 6 : Nat) : Int), .int .i64 ((bv bs 7 : Nat) : Int), .int .i64 ((bv bs 8 : Nat) : Int), .int .i64 ((hd bs).type : Int), .int .i64 ((hd bs).machine : Int), .int .u64 ((hd bs).entry : Int), (.slice none 0 0), (.slice none 0 0), vP, (.slice none 0 0)]) rfl rfl Tryd.sizeOf30 rfl (all12 rfl rfl sx.rp.one rfl) rfl (by simp) rfl rfl (by intro h; omega)) (fun _ _ => ?_)
  iterate 2 refine sqA rfl rfl ?_
  refine sqK [14, 15, 16] rfl ?_
  refine sc_ret ?_
  refine se_then_ret ?_
  exact se_end (resc2 Tryd.results14 rfl rfl rfl Tryd.isAgg30 Tryd.sizeOf30 (i := 0) rfl rfl) (fun w' hw => .inr (.inl ⟨hplain, hbad, ⟨_, rfl, rfl, (all12 rfl rfl sx.rp.one rfl), hw.eff⟩⟩))
 have hcut : CutOk bs (hd bs).shoff ((hd bs).shnum * (hd bs).shes) := .inr hq2
 have hR : 0 < (hd bs).shnum → (Value.slice (some ⟨ab, ao + (hd bs).shoff, none⟩) ((hd bs).shnum * (hd bs).shes) (c - (hd bs).shoff)) = Value.slice (some ⟨ab, ao + (hd bs).shoff, none⟩) ((hd bs).shnum * (hd bs).shes) (c - (hd bs).shoff) := fun _ => rfl
 refine sqM rfl rfl ?_
 iterate 2 refine sq_q (q_extract rfl rfl) rfl ?_
 iterate 2 refine sqA rfl rfl ?_
 refine sqK [0, 2, 4, 5, 6, 8, 14, 17, 18] rfl ?_
 refine sc_seq ?_
 refine scR ?_
 refine sqM rfl rfl ?_
 refine sq_q (q_not' rfl) rfl ?_
 refine sqK [0, 2, 4, 5, 6, 8, 14, 17, 48] rfl ?_
 refine sc_cond_f rfl ?_
 refine scS ?_
 refine scK [0, 2, 4, 5, 6, 8, 14, 17] rfl ?_
 refine scR ?_
 refine sq_m (m_lit (vs := []) trivial (e := 23) (l := []) (fun w => by kernel_rfl)) rfl (fun _ _ => ?_)
 refine sqA rfl rfl ?_
 refine sqK [0, 2, 4, 5, 6, 8, 14, 17, 19] rfl ?_
 refine scK [0, 2, 4, 5, 6, 8, 14, 17, 19] rfl ?_
 refine sc_mem (ms := _ :: _ :: _ :: _ :: ([_] ++ ([] ++ RP))) (fun w1 h => h.perm (permL (F := [_, _, _, _])).symm) ?_
 exact s1_loop sx hnext hcut hR _ [_] _ ⟨rfl, .inr ⟨w.heap.size + 1 + 1, 0, [], rfl, rfl, Nat.le_refl _, Nat.zero_le _, rfl, by omega⟩⟩

end Go.Proofs.YtgkjnkhoopcjgaaDoor
/- spec.sections: the bodies. Conditions: the bytes lie in memory, at most 8192 of them; the tables, the names and the parts are right. -/
namespace Go.Proofs.YtgkjnkhoopcjgaaDoor
open Go.Sx
set_option maxRecDepth 100000
set_option maxHeartbeats 4000000

structure L4F (bs : List UInt8) (am : MM) (m : Nat) (z : L3) : Prop where
 i : z.i ≤ (hd bs).phnum
 r : RowOk m 22 1 z.vs z.i z.v2 z.R
 b : Bss am z.vs (bodyOf bs)
 fs : ∀ j, j < z.i → (prow bs j).filesz ≤ 65536
theorem RowOk_low {m : Nat} {e : TypeId} {k n : Nat} {xs : List Value} {v : Value} {R : MM} (h : RowOk m e k xs n v R) : ∀ p ∈ R, m ≤ p.1 := by
 rcases h.2 with ⟨_, _, rfl⟩ | ⟨b, _, _, _, rfl, _, _, _, hb⟩
 ·
  intro p hp; cases hp
 ·
  intro p hp; rw [List.mem_singleton.1 hp]; exact hb
theorem cut_min {bs : List UInt8} {a n : Nat} (h : a < bs.length) : cut bs a (if bs.length - a < n then bs.length - a else n) = cut bs a n := by
 unfold cut
 by_cases h2 : bs.length - a < n
 ·
  rw [if_pos h2, List.take_of_length_le (by simp), List.take_of_length_le (by simp; omega)]
 ·
  rw [if_neg h2]
theorem cut_none {bs : List UInt8} {a n : Nat} (h : bs.length ≤ a) : cut bs a 0 = cut bs a n := by
 unfold cut
 rw [List.drop_eq_nil_of_le h]; simp

theorem permC {R F A B W : MM} : (R ++ (F ++ (A ++ (B ++ W)))).Perm (F ++ (A ++ (B ++ (R ++ W)))) :=
 (List.perm_append_comm_assoc R F _).trans (.append_left F ((List.perm_append_comm_assoc R A _).trans (.append_left A (List.perm_append_comm_assoc R B W))))
theorem _root_.Go.Sx.q_min_nat {P : Program} {fm : FM} {mm : MM} {d : Option Nat} {ty : TypeId} {pos : String} {after : Array Edge} {g : Option (Nat × Bool)} {x y : Operand} {ts : Array TypeId} {k k' : IntKind} {a b : Nat} (hx : fm.ev x = some (.int k (a : Int))) (hy : fm.ev y = some (.int k' (b : Int))) :
  Quiet P fm mm ⟨d, .call { callee := .builtin .min, args := #[x, y], argTypes := ts }, ty, pos, after, g⟩ (.int k (((if b < a then b else a) : Nat) : Int)) := by
 have := q_min (P := P) (mm := mm) (d := d) (ty := ty) (pos := pos) (after := after) (g := g) (ts := ts) hx hy
 by_cases h : b < a
 ·
  rw [if_pos (by omega)] at this; rw [if_pos h]; exact this
 ·
  rw [if_neg (by omega)] at this; rw [if_neg h]; exact this

theorem s4_bodies {bs : List UInt8} {ab ao c fb : Nat} {fv vP : Value} {l : List Value} {e : TypeId} {fr : Nat × Nat} {RP : MM} {m : Nat} {w : World} {wide big : Bool} (sx : Hs bs ab ao c fb fv vP l e fr RP m w wide big) : StS4 bs ab ao c fb fv vP l e fr RP m w wide big := by
 intro N v1 v2 vs2 R R2 ht hn hR hr2 hbs2 hnz
 obtain ⟨hl1, hl2, hl3, hl4, hl5, hl6, hl7, hl8, hl9, hl10, hl11⟩ := hd_lt bs
 have blen := sx.len
 have hcap := sx.cap
 have hcap2 := sx.cap2
 obtain ⟨ad, cp, rfl⟩ : ∃ ad cp, vP = .slice ad (hd bs).phnum cp := by
  rcases sx.rp.2 with ⟨h0, h, _⟩ | ⟨b, cap, _, h, _⟩
  ·
   exact ⟨none, 0, by rw [h, h0]⟩
  ·
   exact ⟨_, _, h⟩
 refine sc_known fun hnd1 hge1 hlt1 => ?_
 refine sc_seq ?_
 refine scR ?_
 refine sq_q (q_fieldj (j := 10) rfl Tryd.runUnderlying30 rfl Tryd.sizeOf28 rfl) rfl ?_
 refine sq_q (q_load1 rfl Tryd.isAgg28 (i := 1) rfl rfl) rfl ?_
 refine sq_q (q_len rfl Tryd.runUnderlying28) rfl ?_
 refine sqM rfl rfl ?_
 refine sqK [0, 8, 14, 185, 186, 187] rfl ?_
 refine sc_block ?_
 refine sc_loop (ι := L3) (fun z => [(0, .slice (some ⟨ab, ao, none⟩) bs.length c), (8, .pointer (some ⟨w.heap.size, 0, none⟩)), (14, .pointer (some ⟨w.heap.size + 1, 0, none⟩)), (185, .slice ad (hd bs).phnum cp), (186, .int .i64 ((hd bs).phnum : Int)), (187, .int .i64 (z.i : Int))]) (fun z => z.N) (fun z => (w.heap.size + 1, z12O) :: (w.heap.size, fndO bs v1 v2 (.slice ad (hd bs).phnum cp) z.v2) :: (ab, .cells l.toArray e fr) :: (fb, fldO fv wide big) :: (R ++ (R2 ++ (z.R ++ RP)))) (L4F bs [(ab, .cells l.toArray e fr)] w.heap.size) (fun z => (hd bs).phnum - z.i) ⟨0, N, .slice none 0 0, [], []⟩ ⟨⟨Nat.zero_le _, ⟨rfl, .inl ⟨rfl, rfl, rfl⟩⟩, fun j v hj => by simp at hj, fun j hj => absurd hj (Nat.not_lt_zero _)⟩, ⟨rfl, rfl, rfl, rfl, rfl, rfl, trivial⟩, rfl, fun _ h => h⟩ ?_
 rintro ⟨i, N3, v4, vs, R4⟩ ⟨hi1, hr4, hbs, hfs⟩
 dsimp only at hi1 hr4 hbs hfs
 change Sc _ _ _ _ _ _ [(0, .slice (some ⟨ab, ao, none⟩) bs.length c), (8, .pointer (some ⟨w.heap.size, 0, none⟩)), (14, .pointer (some ⟨w.heap.size + 1, 0, none⟩)), (185, .slice ad (hd bs).phnum cp), (186, .int .i64 ((hd bs).phnum : Int)), (187, .int .i64 (i : Int))] N3 ((w.heap.size + 1, z12O) :: (w.heap.size, fndO bs v1 v2 (.slice ad (hd bs).phnum cp) v4) :: (ab, .cells l.toArray e fr) :: (fb, fldO fv wide big) :: (R ++ (R2 ++ (R4 ++ RP))))
 refine sc_known fun hnd3 hge3 hlt3 => ?_
 refine scR ?_
 refine sq_split (q_lss rfl rfl) rfl (fun h38_0 => ?_) (fun h38_0 => ?_)
 ·
  have hlt : i < (hd bs).phnum := by omega
  obtain ⟨q1, q2, q3, q4, q5, q6, q7, q8⟩ := (prowAt_lt _ _ _ _ : (prow bs i).Lt)
  obtain ⟨b, cr, pr, hveq, hRP, hcr, hcr2, hpr, hmb⟩ := sx.rp.2.resolve_left (fun h => by have := h.1; omega)
  obtain ⟨rfl, -, rfl⟩ := Value.slice.inj hveq
  obtain ⟨kp, hkp⟩ := List.getElem?_of_mem (show (b, .cells (prgsL bs (hd bs).phnum ++ pr).toArray 41 (0, 0)) ∈ (w.heap.size + 1, z12O) :: (w.heap.size, fndO bs v1 v2 (.slice (some ⟨b, 0, none⟩) (hd bs).phnum cp) v4) :: (ab, .cells l.toArray e fr) :: (fb, fldO fv wide big) :: (R ++ (R2 ++ (R4 ++ RP))) by rw [hRP]; simp)
  refine sqZ ?_
  refine sc_seq ?_
  refine sc_cond_t rfl ?_
  refine scS ?_
  refine scK [0, 8, 14, 185, 186, 187] rfl ?_
  refine sc_seq ?_
  refine sc_block ?_
  refine scR ?_
  refine sq_q (q_index (j := i * 8) rfl rfl Tryd.runUnderlying28 Tryd.sizeOf41 ⟨by omega, by omega⟩ (by rw [Int.toNat_natCast]; omega)) rfl ?_
  refine sq_q (q_loadM rfl Tryd.isAgg41 Tryd.sizeOf41 (i := kp) hkp (by rw [List.length_append, prgsL_length]; omega) (prg_at hlt)) rfl ?_
  refine sq_m (m_alloc (l := [.int .i64 0, .int .i64 0, .int .u64 0, .int .u64 0, .int .u64 0, .int .u64 0, .int .u64 0, .int .u64 0]) Tryd.zeroValue41 rfl) rfl (fun _ _ => ?_)
  refine sq_m0 (m_stores (i := 0) (vs := prgV (prow bs i)) (l' := prgV (prow bs i)) rfl rfl Tryd.sizeOf41 rfl rfl rfl (by simp) rfl rfl (by intro h; omega)) (fun _ _ => ?_)
  refine sqK [0, 8, 14, 34, 185, 186, 187] rfl ?_
  refine sc_seq ?_
  refine scR ?_
  refine sq_q (q_fieldj (j := 5) rfl Tryd.runUnderlying41 rfl Tryd.sizeOf23 rfl) rfl ?_
  refine sq_q (q_load1 rfl Tryd.isAgg23 (i := 0) rfl rfl) rfl ?_
  refine sq_split (q_gtr rfl rfl) rfl (fun h40_2 => ?_) (fun h40_2 => ?_)
  ·
   have _tok := trivial
   refine sqK [0, 8, 14, 34, 185, 186, 187, 193] rfl ?_
   refine sc_cond_t rfl ?_
   refine scR ?_
   refine sq_q (q_loadK rfl Tryd.isAgg30 Tryd.sizeOf30 (i := 2) (vs := [.int .i64 ((bv bs 4 : Nat) : Int), .int .i64 ((bv bs 5 : Nat) : Int), .int .i64 ((bv bs 6 : Nat) : Int), .int .i64 ((bv bs 7 : Nat) : Int), .int .i64 ((bv bs 8 : Nat) : Int), .int .i64 ((hd bs).type : Int), .int .i64 ((hd bs).machine : Int), .int .u64 ((hd bs).entry : Int), v1, v2, (.slice (some ⟨b, 0, none⟩) (hd bs).phnum cp), v4]) rfl rfl) rfl ?_
   refine sq_m0 (m_stores (i := 1) (vs := [.int .i64 ((bv bs 4 : Nat) : Int), .int .i64 ((bv bs 5 : Nat) : Int), .int .i64 ((bv bs 6 : Nat) : Int), .int .i64 ((bv bs 7 : Nat) : Int), .int .i64 ((bv bs 8 : Nat) : Int), .int .i64 ((hd bs).type : Int), .int .i64 ((hd bs).machine : Int), .int .u64 ((hd bs).entry : Int), v1, v2, (.slice (some ⟨b, 0, none⟩) (hd bs).phnum cp), v4]) (l' := [.int .i64 ((bv bs 4 : Nat) : Int), .int .i64 ((bv bs 5 : Nat) : Int), .int .i64 ((bv bs 6 : Nat) : Int), .int .i64 ((bv bs 7 : Nat) : Int), .int .i64 ((bv bs 8 : Nat) : Int), .int .i64 ((hd bs).type : Int), .int .i64 ((hd bs).machine : Int), .int .u64 ((hd bs).entry : Int), v1, v2, (.slice (some ⟨b, 0, none⟩) (hd bs).phnum cp), v4]) rfl rfl Tryd.sizeOf30 rfl (all12 hR.one hr2.one sx.rp.one hr4.one) rfl (by simp) rfl rfl (by intro h; omega)) (fun _ _ => ?_)
   iterate 2 refine sqA rfl rfl ?_
   refine sqK [14, 15, 16] rfl ?_
   refine sc_ret ?_
   refine se_then_ret ?_
   refine se_block_ret ?_
   iterate 2 refine se_then_ret ?_
   refine se_block_ret ?_
   refine se_then_ret ?_
   exact se_end (resc2 Tryd.results14 rfl rfl rfl Tryd.isAgg30 Tryd.sizeOf30 (i := 1) rfl rfl) (fun w' hw => .inl ⟨_, _, rfl, rfl, (all12 hR.one hr2.one sx.rp.one hr4.one), hw.eff⟩)
  refine sqK [0, 8, 14, 34, 185, 186, 187, 193] rfl ?_
  refine sc_cond_f rfl ?_
  refine scS ?_
  refine scK [0, 8, 14, 34, 185, 186, 187] rfl ?_
  refine scR ?_
  refine sqA rfl rfl ?_
  refine sqZ ?_
  refine sc_seq ?_
  refine scR ?_
  refine sq_q (q_fieldj (j := 2) rfl Tryd.runUnderlying41 rfl Tryd.sizeOf23 rfl) rfl ?_
  refine sq_q (q_load1 rfl Tryd.isAgg23 (i := 0) rfl rfl) rfl ?_
  refine sqM rfl rfl ?_
  refine sq_q (q_len rfl Tryd.runUnderlying22) rfl ?_
  refine sq_q (q_conv rfl Tryd.runUnderlying3 Tryd.runUnderlying23 (w_u64 (by omega) (by omega))) rfl ?_
  refine sq_split (q_lss rfl rfl) rfl (fun h43_5 => ?_) (fun h43_5 => ?_)
  ·
   have hoff1 : (prow bs i).off < bs.length := by omega
   have hbody := cut_min (bs := bs) (a := (prow bs i).off) (n := (prow bs i).filesz) hoff1
   refine sqK [0, 8, 14, 34, 35, 185, 186, 187, 200] rfl ?_
   refine sc_cond_t rfl ?_
   refine sc_region ?_
   refine sq_q (q_fieldj (j := 5) rfl Tryd.runUnderlying41 rfl Tryd.sizeOf23 rfl) rfl ?_
   refine sq_q (q_load1 rfl Tryd.isAgg23 (i := 0) rfl rfl) rfl ?_
   refine sqM rfl rfl ?_
   refine sq_q (q_len rfl Tryd.runUnderlying22) rfl ?_
   refine sq_q (q_conv rfl Tryd.runUnderlying3 Tryd.runUnderlying23 (w_u64 (by omega) (by omega))) rfl ?_
   refine sq_q (q_fieldj (j := 2) rfl Tryd.runUnderlying41 rfl Tryd.sizeOf23 rfl) rfl ?_
   refine sq_q (q_load1 rfl Tryd.isAgg23 (i := 0) rfl rfl) rfl ?_
   refine sq_q (q_sub (r := ((bs.length - (prow bs i).off : Nat) : Int)) rfl rfl (w_u64e (by omega) (by omega) (by omega))) rfl ?_
   refine sq_q (q_min_nat rfl rfl) rfl ?_
   refine sqA rfl rfl ?_
   refine sqKR [0, 8, 14, 34, 35, 185, 186, 187] rfl ?_
   refine sqM rfl rfl ?_
   refine sq_q (q_fieldj (j := 2) rfl Tryd.runUnderlying41 rfl Tryd.sizeOf23 rfl) rfl ?_
   refine sq_q (q_load1 rfl Tryd.isAgg23 (i := 0) rfl rfl) rfl ?_
   refine sqM rfl rfl ?_
   refine sq_m (cut_inv (a := (prow bs i).off) (n := (if bs.length - (prow bs i).off < (prow bs i).filesz then bs.length - (prow bs i).off else (prow bs i).filesz)) hcap hcap2 q3 (by first | omega | (split <;> omega)) rfl rfl rfl) rfl (fun q hq => ?_)
   obtain ⟨v36, b36⟩ := q
   have hcb := cut_by (e := e) (fr := fr) hcap hcap2 sx.at_ sx.all hq
   clear hq
   rcases hcb with ⟨hb1, hcut, hv1, hby⟩ | ⟨hb1, hcut, hv1⟩ <;> dsimp only at hb1 hv1 <;> subst hb1
   ·
    dsimp only at hby
    obtain ⟨ad36, n36, c36, rfl⟩ := hby.slice
    rw [hbody] at hby
    have hpb : ByIn _ _ (bodyOf bs i) := hby
    refine sqM rfl rfl ?_
    iterate 2 refine sq_q (q_extract rfl rfl) rfl ?_
    iterate 2 refine sqA rfl rfl ?_
    refine sqK [0, 8, 14, 36, 185, 186, 187] rfl ?_
    refine sc_region ?_
    refine sq_q (q_fieldj (j := 11) rfl Tryd.runUnderlying30 rfl Tryd.sizeOf27 rfl) rfl ?_
    refine sq_q (q_load1 rfl Tryd.isAgg27 (i := 2) rfl rfl) rfl ?_
    refine sqM rfl rfl ?_
    refine sq_m (m_lit (vs := [(0, _)]) ⟨rfl, rfl, trivial⟩ (e := 22) (l := [.slice ad36 n36 c36]) (fun w => by kernel_rfl)) rfl (fun _ _ => ?_)
    refine sq_m (m_app_any (i := Tryd.t22) (z := .slice none 0 0) (k := 1) (R := R4) (rest := ([(N3, .cells (prgV (prow bs i)).toArray 41 (0, 0)), (w.heap.size + 1, z12O), (w.heap.size, fndO bs v1 v2 (.slice (some ⟨b, 0, none⟩) (hd bs).phnum cp) v4), (ab, .cells l.toArray e fr), (fb, fldO fv wide big)] ++ (R ++ (R2 ++ RP)))) (news := [.slice ad36 n36 c36]) (out := fun R' => [(N3, .cells (prgV (prow bs i)).toArray 41 (0, 0)), (w.heap.size + 1, z12O), (w.heap.size, fndO bs v1 v2 (.slice (some ⟨b, 0, none⟩) (hd bs).phnum cp) v4), (ab, .cells l.toArray e fr), (fb, fldO fv wide big)] ++ (R ++ (R2 ++ (R' ++ RP)))) hr4 rfl rfl (.cons _ (permC (R := R4) (F := [(N3, .cells (prgV (prow bs i)).toArray 41 (0, 0)), (w.heap.size + 1, z12O), (w.heap.size, fndO bs v1 v2 (.slice (some ⟨b, 0, none⟩) (hd bs).phnum cp) v4), (ab, .cells l.toArray e fr), (fb, fldO fv wide big)]) (A := R) (B := R2) (W := RP)).symm) (fun R' => permC (F := [(N3, .cells (prgV (prow bs i)).toArray 41 (0, 0)), (w.heap.size + 1, z12O), (w.heap.size, fndO bs v1 v2 (.slice (some ⟨b, 0, none⟩) (hd bs).phnum cp) v4), (ab, .cells l.toArray e fr), (fb, fldO fv wide big)])) Tryd.underlying27 (by kernel_rfl) (by kernel_rfl) t22_size (by kernel_rfl) rfl (by simp [hv1]) (by omega) (bytes_fit (by omega) t22_bytes) (by intro b h1 h2; omega)) rfl (fun y hy => ?_)
    refine sq_q (q_fieldj (j := 11) rfl Tryd.runUnderlying30 rfl Tryd.sizeOf27 rfl) rfl ?_
    refine sq_m0 (m_store rfl rfl Tryd.sizeOf27 hy.2.one (i := 2) rfl rfl rfl (by intro h; omega)) (fun _ _ => ?_)
    refine sq_nil ?_
    refine se_block ?_
    refine se_seq ?_
    refine scK [0, 8, 14, 185, 186, 187] rfl ?_
    refine sc_region ?_
    refine sq_q (q_add rfl rfl (w_i64 (by omega) (by omega))) rfl ?_
    refine sqM rfl rfl ?_
    refine sq_nil ?_
    refine se_loop ⟨i + 1, _, _, _, _⟩ (by dsimp only; omega) ⟨by dsimp only; omega, hy.2, hbs.snoc (by have := hr4.1; omega) (fun _ h => h) hpb, fun j hj => (by
     by_cases hji : j = i
     ·
      subst hji; omega
     ·
      exact hfs j (by dsimp only at hj; omega))⟩ ⟨rfl, rfl, rfl, rfl, rfl, rfl, trivial⟩ (fun _ h => h.sublist (.cons _ (List.Sublist.refl _)))
   exact absurd (by unfold CutOk; first | exact .inl rfl | (split <;> omega)) hcut
  have hoff0 : bs.length ≤ (prow bs i).off := by omega
  have hbody := cut_none (bs := bs) (a := (prow bs i).off) (n := (prow bs i).filesz) hoff0
  refine sqK [0, 8, 14, 34, 35, 185, 186, 187, 200] rfl ?_
  refine sc_cond_f rfl ?_
  refine scS ?_
  refine scK [0, 8, 14, 34, 35, 185, 186, 187] rfl ?_
  refine scR ?_
  refine sqM rfl rfl ?_
  refine sq_q (q_fieldj (j := 2) rfl Tryd.runUnderlying41 rfl Tryd.sizeOf23 rfl) rfl ?_
  refine sq_q (q_load1 rfl Tryd.isAgg23 (i := 0) rfl rfl) rfl ?_
  refine sqM rfl rfl ?_
  refine sq_m (cut_inv (a := (prow bs i).off) (n := 0) hcap hcap2 q3 (by first | omega | (split <;> omega)) rfl rfl rfl) rfl (fun q hq => ?_)
  obtain ⟨v36, b36⟩ := q
  have hcb := cut_by (e := e) (fr := fr) hcap hcap2 sx.at_ sx.all hq
  clear hq
  rcases hcb with ⟨hb1, hcut, hv1, hby⟩ | ⟨hb1, hcut, hv1⟩ <;> dsimp only at hb1 hv1 <;> subst hb1
  ·
   dsimp only at hby
   obtain ⟨ad36, n36, c36, rfl⟩ := hby.slice
   rw [hbody] at hby
   have hpb : ByIn _ _ (bodyOf bs i) := hby
   refine sqM rfl rfl ?_
   iterate 2 refine sq_q (q_extract rfl rfl) rfl ?_
   iterate 2 refine sqA rfl rfl ?_
   refine sqK [0, 8, 14, 36, 185, 186, 187] rfl ?_
   refine sc_region ?_
   refine sq_q (q_fieldj (j := 11) rfl Tryd.runUnderlying30 rfl Tryd.sizeOf27 rfl) rfl ?_
   refine sq_q (q_load1 rfl Tryd.isAgg27 (i := 2) rfl rfl) rfl ?_
   refine sqM rfl rfl ?_
   refine sq_m (m_lit (vs := [(0, _)]) ⟨rfl, rfl, trivial⟩ (e := 22) (l := [.slice ad36 n36 c36]) (fun w => by kernel_rfl)) rfl (fun _ _ => ?_)
   refine sq_m (m_app_any (i := Tryd.t22) (z := .slice none 0 0) (k := 1) (R := R4) (rest := ([(N3, .cells (prgV (prow bs i)).toArray 41 (0, 0)), (w.heap.size + 1, z12O), (w.heap.size, fndO bs v1 v2 (.slice (some ⟨b, 0, none⟩) (hd bs).phnum cp) v4), (ab, .cells l.toArray e fr), (fb, fldO fv wide big)] ++ (R ++ (R2 ++ RP)))) (news := [.slice ad36 n36 c36]) (out := fun R' => [(N3, .cells (prgV (prow bs i)).toArray 41 (0, 0)), (w.heap.size + 1, z12O), (w.heap.size, fndO bs v1 v2 (.slice (some ⟨b, 0, none⟩) (hd bs).phnum cp) v4), (ab, .cells l.toArray e fr), (fb, fldO fv wide big)] ++ (R ++ (R2 ++ (R' ++ RP)))) hr4 rfl rfl (.cons _ (permC (R := R4) (F := [(N3, .cells (prgV (prow bs i)).toArray 41 (0, 0)), (w.heap.size + 1, z12O), (w.heap.size, fndO bs v1 v2 (.slice (some ⟨b, 0, none⟩) (hd bs).phnum cp) v4), (ab, .cells l.toArray e fr), (fb, fldO fv wide big)]) (A := R) (B := R2) (W := RP)).symm) (fun R' => permC (F := [(N3, .cells (prgV (prow bs i)).toArray 41 (0, 0)), (w.heap.size + 1, z12O), (w.heap.size, fndO bs v1 v2 (.slice (some ⟨b, 0, none⟩) (hd bs).phnum cp) v4), (ab, .cells l.toArray e fr), (fb, fldO fv wide big)])) Tryd.underlying27 (by kernel_rfl) (by kernel_rfl) t22_size (by kernel_rfl) rfl (by simp [hv1]) (by omega) (bytes_fit (by omega) t22_bytes) (by intro b h1 h2; omega)) rfl (fun y hy => ?_)
   refine sq_q (q_fieldj (j := 11) rfl Tryd.runUnderlying30 rfl Tryd.sizeOf27 rfl) rfl ?_
   refine sq_m0 (m_store rfl rfl Tryd.sizeOf27 hy.2.one (i := 2) rfl rfl rfl (by intro h; omega)) (fun _ _ => ?_)
   refine sq_nil ?_
   refine se_block ?_
   refine se_seq ?_
   refine scK [0, 8, 14, 185, 186, 187] rfl ?_
   refine sc_region ?_
   refine sq_q (q_add rfl rfl (w_i64 (by omega) (by omega))) rfl ?_
   refine sqM rfl rfl ?_
   refine sq_nil ?_
   refine se_loop ⟨i + 1, _, _, _, _⟩ (by dsimp only; omega) ⟨by dsimp only; omega, hy.2, hbs.snoc (by have := hr4.1; omega) (fun _ h => h) hpb, fun j hj => (by
    by_cases hji : j = i
    ·
     subst hji; omega
    ·
     exact hfs j (by dsimp only at hj; omega))⟩ ⟨rfl, rfl, rfl, rfl, rfl, rfl, trivial⟩ (fun _ h => h.sublist (.cons _ (List.Sublist.refl _)))
  exact absurd (by unfold CutOk; first | exact .inl rfl | (split <;> omega)) hcut
 have hdone : i = (hd bs).phnum := by omega
 refine sqZ ?_
 refine sc_seq ?_
 refine sc_cond_f rfl ?_
 refine sc_exit ?_
 iterate 2 refine se_then_exit ?_
 refine se_block_hit ?_
 refine se_seq ?_
 refine scK [8, 14] rfl ?_
 refine scR ?_
 refine sq_q (q_loadK rfl Tryd.isAgg30 Tryd.sizeOf30 (i := 1) (vs := [.int .i64 ((bv bs 4 : Nat) : Int), .int .i64 ((bv bs 5 : Nat) : Int), .int .i64 ((bv bs 6 : Nat) : Int), .int .i64 ((bv bs 7 : Nat) : Int), .int .i64 ((bv bs 8 : Nat) : Int), .int .i64 ((hd bs).type : Int), .int .i64 ((hd bs).machine : Int), .int .u64 ((hd bs).entry : Int), v1, v2, (.slice ad (hd bs).phnum cp), v4]) rfl rfl) rfl ?_
 refine sq_m0 (m_stores (i := 0) (vs := [.int .i64 ((bv bs 4 : Nat) : Int), .int .i64 ((bv bs 5 : Nat) : Int), .int .i64 ((bv bs 6 : Nat) : Int), .int .i64 ((bv bs 7 : Nat) : Int), .int .i64 ((bv bs 8 : Nat) : Int), .int .i64 ((hd bs).type : Int), .int .i64 ((hd bs).machine : Int), .int .u64 ((hd bs).entry : Int), v1, v2, (.slice ad (hd bs).phnum cp), v4]) (l' := [.int .i64 ((bv bs 4 : Nat) : Int), .int .i64 ((bv bs 5 : Nat) : Int), .int .i64 ((bv bs 6 : Nat) : Int), .int .i64 ((bv bs 7 : Nat) : Int), .int .i64 ((bv bs 8 : Nat) : Int), .int .i64 ((hd bs).type : Int), .int .i64 ((hd bs).machine : Int), .int .u64 ((hd bs).entry : Int), v1, v2, (.slice ad (hd bs).phnum cp), v4]) rfl rfl Tryd.sizeOf30 rfl (all12 hR.one hr2.one sx.rp.one hr4.one) rfl (by simp) rfl rfl (by intro h; omega)) (fun _ _ => ?_)
 iterate 2 refine sqA rfl rfl ?_
 refine sqK [14, 15, 16] rfl ?_
 refine sc_ret ?_
 have hgood : Good bs := ⟨sx.pre.head, sx.pre.pcut, sx.pre.ps, ht.scut, ht.ss, hn.st⟩
 have hplain : Plain bs := plain_all ht.cp
 subst hdone
 exact se_end (resc2 Tryd.results14 rfl rfl rfl Tryd.isAgg30 Tryd.sizeOf30 (i := 0) rfl rfl) (fun w' hw => .inr (.inr ⟨hplain, hgood, ⟨hnz, hfs⟩, v1, v2, _, v4, R ++ (R2 ++ (R4 ++ RP)), rfl, ⟨R, rowok0 hR, fun p hp => by simp [hp]⟩, ⟨vs2, R2, rowok0 hr2, fun p hp => by simp [hp], hbs2.mono fun p hp => by simp at hp; simp [hp]⟩,
  ⟨RP, rowok0 sx.rp, fun p hp => by simp [hp]⟩, ⟨vs, R4, rowok0 hr4, fun p hp => by simp [hp], hbs.mono fun p hp => by simp at hp; simp [hp]⟩, fun p hp => by
   have h1 := sx.mle
   simp only [List.mem_append] at hp
   rcases hp with hp | hp | hp | hp
   ·
    exact Nat.le_trans h1 (RowOk_low hR p hp)
   ·
    exact Nat.le_trans h1 (RowOk_low hr2 p hp)
   ·
    exact Nat.le_trans h1 (RowOk_low hr4 p hp)
   ·
    exact RowOk_low sx.rp p hp, hw.eff, fun p hp => hw.has p (by simp only [List.mem_cons]; exact .inr (.inr (.inr (.inr hp)))), hw.nd.sublist ((List.sublist_append_right [_, _, _, _] _).map Prod.fst)⟩))

/-- spec.sections. -/
theorem sections14 {bs : List UInt8} {ab ao c fb : Nat} {fv vP : Value} {l : List Value} {e : TypeId} {fr : Nat × Nat} {RP : MM} {m : Nat} {w : World} {wide big : Bool} (sx : Hs bs ab ao c fb fv vP l e fr RP m w wide big) :
  Calls Tryd.prog 14 #[.slice (some ⟨ab, ao, none⟩) bs.length c, .agg [.int .i64 ((bv bs 4 : Nat) : Int), .int .i64 ((bv bs 5 : Nat) : Int), .int .i64 ((bv bs 6 : Nat) : Int), .int .i64 ((bv bs 7 : Nat) : Int), .int .i64 ((bv bs 8 : Nat) : Int), .int .i64 ((hd bs).type : Int), .int .i64 ((hd bs).machine : Int), .int .u64 ((hd bs).entry : Int), (.slice none 0 0), (.slice none 0 0), vP, (.slice none 0 0)].toArray, .pointer (some ⟨fb, 0, none⟩), .int .u64 ((hd bs).shoff : Int), .int .u64 ((hd bs).shnum : Int), .int .u64 ((hd bs).shes : Int), .int .u64 ((hd bs).names : Int)] w (FindR bs [(ab, .cells l.toArray e fr)] m w) :=
 sec14 sx (s2_names sx (s3_parts sx (s4_bodies sx)))

end Go.Proofs.YtgkjnkhoopcjgaaDoor
/- The call of spec.sections as a step of Find's walk. Conditions: the bytes lie in memory; the header and the programs are right. -/
namespace Go.Proofs.YtgkjnkhoopcjgaaDoor
open Go.Sx
set_option maxRecDepth 100000

/-- What is told of a good file. -/
def TellF (bs : List UInt8) (am nn : MM) (v1 v2 v3 v4 : Value) : Prop :=
  (∃ R, RowOk 0 39 11 (secsL bs (nameOf bs) (hd bs).shnum) (hd bs).shnum v1 R ∧ ∀ p ∈ R, p ∈ nn) ∧ (∃ vs R, RowOk 0 22 1 vs (hd bs).shnum v2 R ∧ (∀ p ∈ R, p ∈ nn) ∧ Bss (am ++ nn) vs (partOf bs)) ∧
    (∃ R, RowOk 0 41 8 (prgsL bs (hd bs).phnum) (hd bs).phnum v3 R ∧ ∀ p ∈ R, p ∈ nn) ∧ (∃ vs R, RowOk 0 22 1 vs (hd bs).phnum v4 R ∧ (∀ p ∈ R, p ∈ nn) ∧ Bss (am ++ nn) vs (bodyOf bs))
structure S14 where
  xs : List Value
  is : Bool
  said : Bool
  N : Nat
  nn : MM
def S14F (bs : List UInt8) (am : MM) (m : Nat) (z : S14) : Prop :=
  z.xs.length = 12 ∧ z.xs.all (·.oneCell') = true ∧
    ((z.said = false ∧ z.nn = []) ∨ (z.said = true ∧ z.is = false ∧ Plain bs ∧ ¬ Good bs ∧ z.nn = []) ∨
      (z.said = true ∧ z.is = true ∧ Plain bs ∧ Good bs ∧ Fits bs ∧ ∃ v1 v2 v3 v4, z.xs = hdrL bs ++ [v1, v2, v3, v4] ∧ TellF bs am z.nn v1 v2 v3 v4 ∧ (∀ p ∈ z.nn, m ≤ p.1) ∧ (z.nn.map Prod.fst).Nodup))

theorem sec_inv {bs : List UInt8} {ab ao c fb m : Nat} {fv vP : Value} {l : List Value} {e : TypeId} {fr : Nat × Nat} {RP : MM} {w0 : World} {wide big : Bool} {fm : FM} {N : Nat} {mm : MM} {x0 x1 x2 x3 x4 x5 x6 : Operand} {ts : Array TypeId} {d : Option Nat} {ty : TypeId} {pos : String} {after : Array Edge} {g : Option (Nat × Bool)} {rb : Nat} {ro : Obj}
    (h0 : fm.ev x0 = some (.slice (some ⟨ab, ao, none⟩) bs.length c)) (h1 : fm.ev x1 = some (.agg [.int .i64 ((bv bs 4 : Nat) : Int), .int .i64 ((bv bs 5 : Nat) : Int), .int .i64 ((bv bs 6 : Nat) : Int), .int .i64 ((bv bs 7 : Nat) : Int), .int .i64 ((bv bs 8 : Nat) : Int), .int .i64 ((hd bs).type : Int), .int .i64 ((hd bs).machine : Int), .int .u64 ((hd bs).entry : Int), .slice none 0 0, .slice none 0 0, vP, .slice none 0 0].toArray))
    (h2 : fm.ev x2 = some (.pointer (some ⟨fb, 0, none⟩))) (h3 : fm.ev x3 = some (.int .u64 ((hd bs).shoff : Int))) (h4 : fm.ev x4 = some (.int .u64 ((hd bs).shnum : Int))) (h5 : fm.ev x5 = some (.int .u64 ((hd bs).shes : Int))) (h6 : fm.ev x6 = some (.int .u64 ((hd bs).names : Int)))
    (hs : ∀ w, Mem w0 E0 N mm w → Hs bs ab ao c fb fv vP l e fr RP m w wide big) (hrb : (rb, ro) ∈ mm) (hrm : rb < m) (hE : w0.heap.size ≤ m) :
    Main Tryd.prog w0 E0 fm N mm ⟨d, .call { callee := .value (.func 14), args := #[x0, x1, x2, x3, x4, x5, x6], argTypes := ts }, ty, pos, after, g⟩ (fun z : S14 => .tuple #[.agg z.xs.toArray, .bool z.is, .bool z.said]) (fun z => z.N) (fun z => (rb, ro) :: z.nn) (S14F bs [(ab, .cells l.toArray e fr)] m) := by
  refine m_call (vs := #[_, _, _, _, _, _, _]) (fun ρ hρ => by simp [hρ _ _ h0, hρ _ _ h1, hρ _ _ h2, hρ _ _ h3, hρ _ _ h4, hρ _ _ h5, hρ _ _ h6]) Tryd.call14 fun w hw => (sections14 (hs w hw)).mono fun en w' h => ?_
  rcases h with ⟨xs, is, he, hl, ha, hf⟩ | ⟨hp, hg, xs, he, hl, ha, hf⟩ | ⟨hp, hg, hfi, v1, v2, v3, v4, nn, he, t1, t2, t3, t4, hm, hf, hn, hnd⟩
  · refine ⟨⟨xs, is, false, w'.heap.size, []⟩, ⟨hl, ha, .inl ⟨rfl, rfl⟩⟩, he, ?_⟩
    exact hw.call hf (fun k hk _ => hk) [(rb, ro)] [] (fun p hp => by rw [List.mem_singleton.1 hp]; exact hrb) (fun p _ hk => hk) (fun p hp => by cases hp) (by simp)
  · refine ⟨⟨xs, false, true, w'.heap.size, []⟩, ⟨hl, ha, .inr (.inl ⟨rfl, rfl, hp, hg, rfl⟩)⟩, he, ?_⟩
    exact hw.call hf (fun k hk _ => hk) [(rb, ro)] [] (fun p hp => by rw [List.mem_singleton.1 hp]; exact hrb) (fun p _ hk => hk) (fun p hp => by cases hp) (by simp)
  · have hone : ([v1, v2, v3, v4] : List Value).all (·.oneCell') = true := by
      obtain ⟨_, r1, _⟩ := t1; obtain ⟨_, _, r2, _⟩ := t2; obtain ⟨_, r3, _⟩ := t3; obtain ⟨_, _, r4, _⟩ := t4
      simp [r1.one, r2.one, r3.one, r4.one]
    refine ⟨⟨hdrL bs ++ [v1, v2, v3, v4], true, true, w'.heap.size, nn⟩, ⟨rfl, by rw [List.all_append, hone]; rfl, .inr (.inr ⟨rfl, rfl, hp, hg, hfi, v1, v2, v3, v4, rfl, ⟨t1, t2, t3, t4⟩, hm, hnd⟩)⟩, he, ?_⟩
    refine (hw.call hf (fun k hk _ => hk) [(rb, ro)] nn (fun p hp => by rw [List.mem_singleton.1 hp]; exact hrb) (fun p _ hk => hk) hn ?_).perm (List.perm_append_comm (l₁ := [(rb, ro)]))
    rw [List.map_append]
    refine List.nodup_append.2 ⟨hnd, by simp, ?_⟩
    intro a ha b hb
    simp at hb
    obtain ⟨p, hp, rfl⟩ := List.mem_map.1 ha
    have := hm p hp
    omega
end Go.Proofs.YtgkjnkhoopcjgaaDoor
/- How Find's end follows from the call of sections. No condition. -/
namespace Go.Proofs.YtgkjnkhoopcjgaaDoor
open Go.Sx
set_option maxRecDepth 100000

theorem _root_.Go.Sx.rangeK_mk {α β : Type} {z : β} : ∀ {l : List α} {o n : Nat} {k : List α → Option β}, o + n ≤ l.length → k ((l.drop o).take n) = some z → rangeK l o n k = some z
  | [], 0, 0, _, _, h => by simpa [rangeK] using h
  | [], o + 1, n, _, hl, _ => by simp at hl
  | [], 0, n + 1, _, hl, _ => by simp at hl
  | a :: r, 0, 0, _, _, h => by simpa [rangeK] using h
  | a :: r, 0, n + 1, k, hl, h => by
    rw [rangeK]
    exact rangeK_mk (l := r) (o := 0) (n := n) (by simp at hl ⊢; omega) (by simpa using h)
  | a :: r, o + 1, n, k, hl, h => by
    rw [rangeK]
    exact rangeK_mk (l := r) (o := o) (n := n) (by simp at hl ⊢; omega) (by simpa using h)
theorem rangeK_all {l : List Value} {n : Nat} (h : l.length = n) : rangeK l 0 n some = some l :=
  rangeK_mk (by omega) (by rw [List.drop_zero, List.take_of_length_le (by omega)])
theorem RowOk_up {m m' : Nat} {e : TypeId} {k n : Nat} {xs : List Value} {v : Value} {R : MM} (h : RowOk m e k xs n v R) (hb : ∀ p ∈ R, m' ≤ p.1) : RowOk m' e k xs n v R :=
  ⟨h.1, h.2.imp id fun ⟨b, cap, pad, h1, h2, h3, h4, h5, _⟩ => ⟨b, cap, pad, h1, h2, h3, h4, h5, hb (b, _) (by rw [h2]; exact List.mem_singleton.2 rfl)⟩⟩
theorem findR_of {bs : List UInt8} {am : MM} {w w' : World} {z : S14} {N : Nat} {p : Nat × Obj} (hz : S14F bs am (w.heap.size + 1) z) (hw : Mem w E0 N (p :: z.nn) w') : FindR bs am w.heap.size w (.returned (.tuple #[.agg z.xs.toArray, .bool z.is, .bool z.said])) w' := by
  obtain ⟨xs, is, said, N1, nn⟩ := z
  obtain ⟨hl, ha, ⟨h1, _⟩ | ⟨h1, h2, hp, hg, _⟩ | ⟨h1, h2, hp, hg, hf, v1, v2, v3, v4, hx, ⟨t1, t2, t3, t4⟩, hm, hnd⟩⟩ := hz
  · dsimp only at h1; subst h1
    exact .inl ⟨xs, is, rfl, hl, ha, hw.eff⟩
  · dsimp only at h1 h2; subst h1; subst h2
    exact .inr (.inl ⟨hp, hg, xs, rfl, hl, ha, hw.eff⟩)
  · dsimp only at h1 h2 hx; subst h1; subst h2; subst hx
    exact .inr (.inr ⟨hp, hg, hf, v1, v2, v3, v4, nn, rfl, t1, t2, t3, t4, fun q hq => Nat.le_of_lt (hm q hq), hw.eff, fun q hq => hw.has q (List.mem_cons_of_mem _ hq), hnd⟩)
end Go.Proofs.YtgkjnkhoopcjgaaDoor
/- Equal structs, texts of bytes that lie in memory, blocks of rows: for the law's comparisons. Conditions: what is read lies in memory. -/
namespace Go.Proofs.YtgkjnkhoopcjgaaDoor
open Go.Sx
set_option maxRecDepth 100000

theorem eq_hdr {bs : List UInt8} (d : Nat) (w : World) : (Op.equalIn (d + 2) 25 (.agg (hdrL bs).toArray) (.agg (hdrL bs).toArray)).run Tryd.prog w = .ok true w := by
  rw [run_equalIn_agg w (d+1) 25 _ _ (by kernel_rfl) (by kernel_rfl)]
  simp [Program.fieldsOf, Tryd.underlying25, Op.eqFields, part, hdrL, Tryd.isAgg3, Tryd.isAgg23, run_equalIn_int _ _ _ _ _ _ _ Tryd.underlying3, run_equalIn_int _ _ _ _ _ _ _ Tryd.underlying23]
theorem eq_prg {p : PRow} (d : Nat) (w : World) : (Op.equalIn (d + 2) 41 (.agg (prgV p).toArray) (.agg (prgV p).toArray)).run Tryd.prog w = .ok true w := by
  rw [run_equalIn_agg w (d+1) 41 _ _ (by kernel_rfl) (by kernel_rfl)]
  simp [Program.fieldsOf, Tryd.underlying41, Op.eqFields, part, prgV, Tryd.isAgg3, Tryd.isAgg23, run_equalIn_int _ _ _ _ _ _ _ Tryd.underlying3, run_equalIn_int _ _ _ _ _ _ _ Tryd.underlying23]
theorem eq_sec {n : List UInt8} {p : SRow} (d : Nat) (w : World) : (Op.equalIn (d + 2) 39 (.agg (secV n p).toArray) (.agg (secV n p).toArray)).run Tryd.prog w = .ok true w := by
  rw [run_equalIn_agg w (d+1) 39 _ _ (by kernel_rfl) (by kernel_rfl)]
  simp [Program.fieldsOf, Tryd.underlying39, Op.eqFields, part, secV, Tryd.isAgg3, Tryd.isAgg23, Tryd.isAgg9, run_equalIn_string _ _ _ _ _ Tryd.underlying9, run_equalIn_int _ _ _ _ _ _ _ Tryd.underlying3, run_equalIn_int _ _ _ _ _ _ _ Tryd.underlying23]
theorem eg25 : Tryd.prog.eqGuardType Tryd.prog.depth 25 = false := by kernel_rfl
theorem eg41 : Tryd.prog.eqGuardType Tryd.prog.depth 41 = false := by kernel_rfl
theorem eg39 : Tryd.prog.eqGuardType Tryd.prog.depth 39 = false := by kernel_rfl
section
variable {P : Program} {fm : FM} {mm : MM} {d : Option Nat} {ty : TypeId} {pos : String} {after : Array Edge} {g : Option (Nat × Bool)} {x y : Operand}
theorem q_aggneq {t t2 : TypeId} {xs : Array Value} (hx : fm.ev x = some (.agg xs)) (hy : fm.ev y = some (.agg xs)) (hg : P.eqGuardType P.depth t = false)
    (he : ∀ d w, (Op.equalIn (d + 2) t (.agg xs) (.agg xs)).run P w = .ok true w) : Quiet P fm mm ⟨d, .binOp .neq t x y t2, ty, pos, after, g⟩ (.bool false) :=
  q_bin hx hy (fun w => run_eqGuard_agg w _ _ _ _ _ _ hg) fun w _ => by
    have h1 := he 9998 w
    rw [run_neq_struct, h1]; rfl
theorem q_byS {v : Value} {xs : List UInt8} (hx : fm.ev x = some v) (hv : ByIn mm v xs) : Quiet Tryd.prog fm mm ⟨d, .convert 22 9 x, ty, pos, after, g⟩ (.string (strB xs)) := by
  rcases hv with ⟨rfl, ad, c, rfl⟩ | ⟨b, o, c, l, e, fr, rfl, h1, h2, h3, h4, h5, h6⟩
  · cases ad with
    | none => exact q_bstr0 hx Tryd.underlying22 Tryd.underlying5 Tryd.underlying9
    | some a =>
      exact q_run fun ρ hρ w hw => by
        have := run_convert_bytes_back (P := Tryd.prog) w 22 9 5 a c [] Tryd.underlying22 Tryd.underlying5 Tryd.underlying9 (fun j hj => by simp at hj)
        simp only [List.length_nil] at this
        simp [execOp, hρ _ _ hx, this, strB]
  · obtain ⟨i, hi⟩ := List.getElem?_of_mem h3
    exact q_bstr hx hi Tryd.underlying22 Tryd.underlying5 Tryd.underlying9 rfl h4
theorem q_lenby {v : Value} {xs : List UInt8} (hx : fm.ev x = some v) (hv : ByIn mm v xs) : Quiet Tryd.prog fm mm ⟨d, .call { callee := .builtin .len, args := #[x], argTypes := #[22] }, ty, pos, after, g⟩ (.int .i64 (xs.length : Int)) := by
  rcases hv with ⟨rfl, ad, c, rfl⟩ | ⟨b, o, c, l, e, fr, rfl, _⟩
  · exact q_len hx Tryd.runUnderlying22
  · exact q_len hx Tryd.runUnderlying22
end
theorem _root_.Go.Sx.RowOk.len {m : Nat} {e : TypeId} {k n : Nat} {xs : List Value} {v : Value} {R : MM} (h : RowOk m e k xs n v R) : ∃ ad c, v = .slice ad n c := by
  rcases h.2 with ⟨rfl, h, _⟩ | ⟨b, cap, _, h, _⟩
  · exact ⟨_, _, h⟩
  · exact ⟨_, _, h⟩
theorem _root_.Go.Sx.RowOk.blk {m : Nat} {e : TypeId} {k n : Nat} {xs : List Value} {v : Value} {R M : MM} (h : RowOk m e k xs n v R) (hn : 0 < n) (hR : ∀ p ∈ R, p ∈ M) :
    ∃ (b cap : Nat) (pad : List Value) (j : Nat), v = .slice (some ⟨b, 0, none⟩) n cap ∧ M[j]? = some (b, Obj.cells (xs ++ pad).toArray e (0, 0)) := by
  rcases h.2 with ⟨h0, _⟩ | ⟨b, cap, pad, h1, h2, _⟩
  · omega
  · obtain ⟨j, hj⟩ := List.getElem?_of_mem (hR (b, Obj.cells (xs ++ pad).toArray e (0, 0)) (by rw [h2]; exact List.mem_singleton.2 rfl))
    exact ⟨b, cap, pad, j, h1, hj⟩
theorem cell1 {xs pad : List Value} {n i : Nat} (h : xs.length = n * 1) (hi : i < n) : ∃ u, xs[i]? = some u ∧ (xs ++ pad)[i]? = some u := by
  have hl : i < xs.length := by omega
  exact ⟨xs[i], List.getElem?_eq_getElem hl, by rw [List.getElem?_append_left hl]; exact List.getElem?_eq_getElem hl⟩
end Go.Proofs.YtgkjnkhoopcjgaaDoor
/- Rows that grow by whatever an append takes: a slice, a text, nothing; rows pulled out of memory. No condition. -/
namespace Go.Sx
open Go.Proofs.YtgkjnkhoopcjgaaDoor
set_option maxRecDepth 100000
variable {P : Program} {w0 : World} {E : Nat → Prop} {fm : FM} {N : Nat} {mm : MM} {d : Option Nat} {ty : TypeId} {pos : String} {after : Array Edge} {gd : Option (Nat × Bool)}

/-- One part of memory stands ahead of the others. -/
theorem pull (R W : MM) : ∀ Ls : List MM, (Ls.foldr (· ++ ·) (R ++ W)).Perm (R ++ Ls.foldr (· ++ ·) W)
  | [] => List.Perm.refl _
  | L :: Ls => (List.Perm.append_left L (pull R W Ls)).trans (List.perm_append_comm_assoc L R _)
theorem push (R W : MM) (Ls : List MM) : (R ++ Ls.foldr (· ++ ·) W).Perm (Ls.foldr (· ++ ·) (R ++ W)) := (pull R W Ls).symm

/-- A source of cells for an append. -/
theorem src_at {w : World} {size : Nat} {tx e' : TypeId} {b o m c j : Nat} {l news : List Value} {e2 : TypeId} {fr : Nat × Nat} (hw : Mem w0 E N mm w) (hk : P.underlying tx = some (.slice e')) (hm : mm[j]? = some (b, .cells l.toArray e2 fr))
    (hnews : (l.drop o).take (m * size) = news) (hlen : o + m * size ≤ l.length) (h1 : news.all (·.oneCell') = true) : Src P size tx (.slice (some ⟨b, o, none⟩) m c) m news w := by
  subst hnews
  exact Src.ofSlice w hk ⟨b, o, none⟩ m c _ (by simp; omega) (has_cells (hw.get hm)) (by simpa using h1)

theorem run_append_room_any {w : World} (t tx ty e : TypeId) (i : TypeInfo) (ht : P.underlying t = some (.slice e)) (hi : P.info? e = some i)
    (g sLen sCap : Nat) (cur : Array Value) (hg : w.heap[g]? = some (.cells cur e (0, 0))) {x : Value} {m : Nat} {news : List Value} (hs : Src P i.size tx x m news w)
    (hroom : sLen + m ≤ sCap) (hfit : sLen * i.size + news.length ≤ cur.size) :
    (Builtin.append_ #[t, tx] ty #[.slice (some ⟨g, 0, none⟩) sLen sCap, x]).run P w =
      .ok (.slice (some ⟨g, 0, none⟩) (sLen + m) sCap) (w.setRow g (cur.toList.take (sLen * i.size) ++ news ++ cur.toList.drop (sLen * i.size + news.length)).toArray) := by
  have hst := run_storeCells_at P g (sLen * i.size) e news 0 cur w hg (by simpa using hfit) hs.one
  simp only [Nat.add_zero] at hst
  rcases hs.kind with ⟨e', hk⟩ | hk <;> simp [Builtin.append_, run_underlying ht, run_underlying hk, sizeOf, typeInfo, hi, hs.len, hroom, hs.cells, Addr.add_lit, hst]

theorem RowOk.nodup_of {L : Nat} {e : TypeId} {k n : Nat} {xs : List Value} {v : Value} {R rest mm : MM} (h : RowOk L e k xs n v R) (hnd : ((R ++ rest).map Prod.fst).Nodup) : (rest.map Prod.fst).Nodup := by
  rw [List.map_append] at hnd
  exact (List.nodup_append.1 hnd).2.1

/-- append(row, whatever). -/
theorem m_app_src {t tx e : TypeId} {i : TypeInfo} {z : Value} {s y : Operand} {n m k L : Nat} {v u : Value} {xs news : List Value} {R rest : MM} {out : MM → MM}
    (hR : RowOk L e k xs n v R) (hs : fm.ev s = some v) (hy : fm.ev y = some u) (hsrc : ∀ w, Mem w0 E N mm w → Src P k tx u m news w) (hp : mm.Perm (R ++ rest)) (ho : ∀ R', (R' ++ rest).Perm (out R'))
    (ht : P.underlying t = some (.slice e)) (hi : P.info? e = some i) (hz : i.zero = some z) (hk : i.size = k) (hzs : z.cells.size = k)
    (h63 : n + m ≤ 140737488355328) (hb : (n + m) * i.bytes ≤ 140737488355328) (hL : L ≤ N) (hE : ∀ p ∈ R, p.1 < w0.heap.size → E p.1) :
    Main P w0 E fm N mm ⟨d, .call { callee := .builtin .append, args := #[s, y], argTypes := #[t, tx] }, ty, pos, after, gd⟩ (fun q : Ry => q.v) (fun q => q.N) (fun q => out q.R)
      (fun q => N ≤ q.N ∧ RowOk L e k (xs ++ news) (n + m) q.v q.R ∧ ∀ p ∈ q.R, (∃ p' ∈ R, p'.1 = p.1) ∨ N ≤ p.1) := by
  subst hk
  intro ρ hρ w hw
  have hS := hsrc w hw
  have hw1 : Mem w0 E N (R ++ rest) w := hw.perm hp.symm
  have hrun : ∀ {r : Result Value}, (Builtin.append_ #[t, tx] ty #[v, u]).run P w = r → (execOp ρ ⟨d, .call { callee := .builtin .append, args := #[s, y], argTypes := #[t, tx] }, ty, pos, after, gd⟩).run P w = r.andThen fun x w' => .ok (.value x) w' := by
    intro r hr
    simp only [execOp, resolve, invoke, builtin, Sem.run_bind, Sem.run_pure, Result.andThen_ok, List.map_toArray, List.map_cons, List.map_nil, hρ _ _ hs, hρ _ _ hy, hr]
  obtain ⟨hx, hR⟩ := hR
  have hnl : (xs ++ news).length = (n + m) * i.size := by rw [List.length_append, hx, hS.newsLen, Nat.add_mul]
  by_cases hm0 : m = 0
  · subst hm0
    obtain rfl : news = [] := List.length_eq_zero_iff.1 (by rw [hS.newsLen]; simp)
    have key : (Builtin.append_ #[t, tx] ty #[v, u]).run P w = .ok v w := by
      rcases hR with ⟨rfl, rfl, rfl⟩ | ⟨b, cap, pad, rfl, rfl, h2, _⟩
      · exact run_append_nothing w t tx ty e i ht hi none 0 0 (Nat.le_refl _) u hS
      · exact run_append_nothing w t tx ty e i ht hi _ n cap h2 u hS
    rw [hrun key]
    refine ⟨⟨v, R, N⟩, ⟨Nat.le_refl _, ⟨hnl, ?_⟩, fun p hp => .inl ⟨p, hp, rfl⟩⟩, rfl, hw1.perm (ho R).symm⟩
    simpa using hR
  · rcases hR with ⟨rfl, rfl, rfl⟩ | ⟨b, cap, pad, rfl, rfl, h2, h3, h4, h5⟩
    · obtain rfl : xs = [] := List.length_eq_zero_iff.1 (by rw [hx]; simp)
      have hr := run_append_grow_src (P := P) w t tx ty e i z ht hi hz none 0 0 [] (run_firstCells_none w.drew i.size 0 0 0) u m news hS (by omega) (by omega) (growslice_fits (by omega) hb)
      rw [hw.size] at hr
      rw [hrun hr]
      have hcs : (([] ++ news).toArray ++ Builtin.zeroCells z.cells (grownCap w (0 + m) 0 e - (0 + m))) = (news ++ (Builtin.zeroCells z.cells (grownCap w (0 + m) 0 e - (0 + m))).toList).toArray := by apply Array.ext'; simp
      rw [hcs]
      have hw' : Mem w0 E N rest w.drew := (hw1.same ⟨rfl, rfl, rfl, rfl⟩)
      have ha := hw'.alloc (.cells (news ++ (Builtin.zeroCells z.cells (grownCap w (0 + m) 0 e - (0 + m))).toList).toArray e)
      refine ⟨⟨_, [(N, .cells (news ++ (Builtin.zeroCells z.cells (grownCap w (0 + m) 0 e - (0 + m))).toList).toArray e (0, 0))], N + 1⟩, ⟨Nat.le_succ N, ⟨by simpa using hnl, .inr ⟨N, grownCap w (0 + m) 0 e, (Builtin.zeroCells z.cells (grownCap w (0 + m) 0 e - (0 + m))).toList, rfl, rfl, grownCap_ge w _ 0 e, grownCap_le_maxLen w _ 0 e (by simp only [maxLen]; omega), by simp [size_zeroCells, hzs], hL⟩⟩, fun p hp => .inr (by rw [List.mem_singleton.1 hp]; exact Nat.le_refl _)⟩, rfl, ?_⟩
      have h7 := ha.perm (ho [(N, .cells (news ++ (Builtin.zeroCells z.cells (grownCap w (0 + m) 0 e - (0 + m))).toList).toArray e (0, 0))]).symm
      simpa using h7
    · have hg0 : w.heap[b]? = some (.cells (xs ++ pad).toArray e (0, 0)) := hw1.has (b, .cells (xs ++ pad).toArray e (0, 0)) (by simp)
      by_cases hroom : n + m ≤ cap
      · have hfit : n * i.size + news.length ≤ (xs ++ pad).toArray.size := by
          rw [hS.newsLen]; simp only [List.size_toArray, List.length_append, hx, h4]
          rw [← Nat.add_mul, ← Nat.add_mul]
          exact Nat.mul_le_mul_right _ (by omega)
        have hr := run_append_room_any (P := P) t tx ty e i ht hi b n cap (xs ++ pad).toArray hg0 hS hroom hfit
        have hcs : ((xs ++ pad).toArray.toList.take (n * i.size) ++ news ++ (xs ++ pad).toArray.toList.drop (n * i.size + news.length)) = xs ++ news ++ pad.drop (m * i.size) := by
          rw [hS.newsLen, ← hx]
          simp [List.drop_append]
        rw [hcs] at hr
        rw [hrun hr]
        have h6 := hw1.upd (i := 0) (b := b) (o := .cells (xs ++ pad).toArray e (0, 0)) rfl (upd_setRow hg0 (xs ++ news ++ pad.drop (m * i.size)).toArray) (hE (b, _) (List.mem_singleton.2 rfl))
        refine ⟨⟨_, [(b, .cells (xs ++ news ++ pad.drop (m * i.size)).toArray e (0, 0))], N⟩, ⟨Nat.le_refl _, ⟨hnl, .inr ⟨b, cap, _, rfl, rfl, hroom, h3, ?_, h5⟩⟩, fun p hp => .inl ⟨_, List.mem_singleton.2 rfl, by rw [List.mem_singleton.1 hp]⟩⟩, rfl, ?_⟩
        · simp only [List.length_drop, h4]
          rw [← Nat.sub_mul]
          congr 1
          omega
        · exact Mem.perm (by simpa using h6) (ho _).symm
      · have hold : (Builtin.firstCells i.size n (.slice (some ⟨b, 0, none⟩) n cap)).run P w.drew = .ok xs.toArray w.drew := by
          refine run_firstCells_some w.drew i.size n ⟨b, 0, none⟩ n cap xs hx fun j u hj => ?_
          have := has_cells (o := 0) (n := xs.length) hg0 j u (by simpa using hj)
          simpa using this
        have hr := run_append_grow_src (P := P) w t tx ty e i z ht hi hz (some ⟨b, 0, none⟩) n cap xs hold u m news hS (by omega) (by omega) (growslice_fits (by omega) hb)
        rw [hw.size] at hr
        rw [hrun hr]
        have hcs : ((xs ++ news).toArray ++ Builtin.zeroCells z.cells (grownCap w (n + m) cap e - (n + m))) = (xs ++ news ++ (Builtin.zeroCells z.cells (grownCap w (n + m) cap e - (n + m))).toList).toArray := by apply Array.ext'; simp
        rw [hcs]
        have hw' : Mem w0 E N rest w.drew := Mem.same (hw1.sublist (List.sublist_cons_self _ _)) ⟨rfl, rfl, rfl, rfl⟩
        have ha := hw'.alloc (.cells (xs ++ news ++ (Builtin.zeroCells z.cells (grownCap w (n + m) cap e - (n + m))).toList).toArray e)
        refine ⟨⟨_, [(N, .cells (xs ++ news ++ (Builtin.zeroCells z.cells (grownCap w (n + m) cap e - (n + m))).toList).toArray e (0, 0))], N + 1⟩, ⟨Nat.le_succ N, ⟨hnl, .inr ⟨N, grownCap w (n + m) cap e, _, rfl, rfl, grownCap_ge w _ cap e, grownCap_le_maxLen w _ cap e (by simp only [maxLen]; omega), by simp [size_zeroCells, hzs], hL⟩⟩, fun p hp => .inr (by rw [List.mem_singleton.1 hp]; exact Nat.le_refl _)⟩, rfl, ?_⟩
        exact Mem.perm (by simpa using ha) (ho _).symm
end Go.Sx
/- Rows that are told at once as a block; numbers laid byte by byte. No condition. -/
namespace Go.Sx
open Go.Proofs.YtgkjnkhoopcjgaaDoor
set_option maxRecDepth 100000
section
variable {P : Program} {w0 : World} {E : Nat → Prop} {fm : FM} {N : Nat} {mm rest : MM} {d : Nat} {op : Op} {ty : TypeId} {pos : String} {after : Array Edge} {nt : Nat} {ops : Array Oper} {Q : Exit → Act → World → Prop} {r : List Oper}
variable {e : TypeId} {k n L : Nat} {xs : List Value}
theorem RowOk.told {v : Value} {R : MM} (h : RowOk L e k xs n v R) (hn : 0 < n) : ∃ (b cap : Nat) (pad : List Value), v = .slice (some ⟨b, 0, none⟩) n cap ∧ R = [(b, Obj.cells (xs ++ pad).toArray e (0, 0))] ∧ L ≤ b := by
  rcases h.2 with ⟨h0, _⟩ | ⟨b, cap, pad, h1, h2, _, _, _, h3⟩
  · omega
  · exact ⟨b, cap, pad, h1, h2, h3⟩
theorem RowOk.cap_le {b c : Nat} {R : MM} (h : RowOk L e k xs n (.slice (some ⟨b, 0, none⟩) n c) R) : n ≤ c ∧ c ≤ 9223372036854775807 := by
  rcases h.2 with ⟨_, h1, _⟩ | ⟨b', cap, pad, h1, h2, h3, h4, _⟩
  · cases h1
  · obtain ⟨_, _, rfl⟩ := Value.slice.inj h1
    exact ⟨h3, h4⟩
theorem RowOk.lit {b c : Nat} {ys : List Value} (h1 : xs.length = n * k) (h2 : n = c) (h3 : c ≤ 140737488355328) (h4 : L ≤ b) (h5 : xs = ys) : RowOk L e k xs n (.slice (some ⟨b, 0, none⟩) n c) [(b, .cells ys.toArray e (0, 0))] := by
  subst h2; subst h5
  exact ⟨h1, .inr ⟨b, n, [], rfl, by simp, Nat.le_refl _, by simp only [maxLen]; omega, by simp, h4⟩⟩
/-- A row's new state, told as a block. -/
theorem sq_row {C : Ry → Prop} (hq : Main P w0 E fm N mm ⟨some d, op, ty, pos, after, none⟩ (fun q : Ry => q.v) (fun q => q.N) (fun q => q.R ++ rest) (fun q => N ≤ q.N ∧ RowOk L e k xs n q.v q.R ∧ C q)) (hn : 0 < n) (hd : Nat.blt d nt = true)
    (h : ∀ (b cap N' : Nat) (pad : List Value), N ≤ N' → L ≤ b → RowOk L e k xs n (.slice (some ⟨b, 0, none⟩) n cap) [(b, .cells (xs ++ pad).toArray e (0, 0))] → Sq P ops Q nt w0 E r ((d, .slice (some ⟨b, 0, none⟩) n cap) :: fm) N' ((b, .cells (xs ++ pad).toArray e (0, 0)) :: rest)) :
    Sq P ops Q nt w0 E (⟨some d, op, ty, pos, after, none⟩ :: r) fm N mm := by
  refine sq_m hq hd fun q hq => ?_
  obtain ⟨v, R, N'⟩ := q
  obtain ⟨h1, h2, _⟩ := hq
  dsimp only at h1 h2
  obtain ⟨b, cap, pad, rfl, rfl, h3⟩ := h2.told hn
  exact h b cap N' pad h1 h3 h2
theorem dr_row {C : Ry → Prop} {ms : List Nat} {mp : MM} {K : FM → (World → Prop) → Prop} {r : List Nat} {i : Nat} (ho : ops[i]? = some ⟨some d, op, ty, pos, after, none⟩) (hi : ms.contains i = true)
    (hq : Main P w0 E fm N mm ⟨some d, op, ty, pos, after, none⟩ (fun q : Ry => q.v) (fun q => q.N) (fun q => q.R ++ rest) (fun q => N ≤ q.N ∧ RowOk L e k xs n q.v q.R ∧ C q)) (hn : 0 < n) (hmp : List.Subset mp rest)
    (h : ∀ (b cap N' : Nat) (pad : List Value), N ≤ N' → L ≤ b → RowOk L e k xs n (.slice (some ⟨b, 0, none⟩) n cap) [(b, .cells (xs ++ pad).toArray e (0, 0))] → Dr P ops ms mp K r ((d, .slice (some ⟨b, 0, none⟩) n cap) :: fm) (Mem w0 E N' ((b, .cells (xs ++ pad).toArray e (0, 0)) :: rest))) :
    Dr P ops ms mp K (i :: r) fm (Mem w0 E N mm) := by
  refine dr_m ho hi hq (fun q _ p hp => List.mem_append_right _ (hmp hp)) fun q hq => ?_
  obtain ⟨v, R, N'⟩ := q
  obtain ⟨h1, h2, _⟩ := hq
  dsimp only at h1 h2
  obtain ⟨b, cap, pad, rfl, rfl, h3⟩ := h2.told hn
  exact h b cap N' pad h1 h3 h2
end

/-- A number's bytes, the smallest ahead. -/
def leB : Nat → Nat → List UInt8
  | _, 0 => []
  | n, s + 1 => leB n s ++ [UInt8.ofNat (n / 256 ^ s)]
theorem leB_length (n s : Nat) : (leB n s).length = s := by
  induction s with
  | zero => rfl
  | succ s ih => simp [leB, ih]
theorem leB_set {n s i : Nat} (hi : i < s) : ((leB n i).map u8v ++ List.replicate (s - i) (Value.int .u8 0)).set i (Value.int .u8 ((n / 256 ^ i % 256 : Nat) : Int)) = (leB n (i + 1)).map u8v ++ List.replicate (s - (i + 1)) (Value.int .u8 0) := by
  obtain ⟨k, hk⟩ : ∃ k, s - i = k + 1 := ⟨s - i - 1, by omega⟩
  have h2 : s - (i + 1) = k := by omega
  rw [hk, h2, List.set_append_right _ _ (by simp [leB_length]), List.length_map, leB_length, Nat.sub_self, List.replicate_succ, List.set_cons_zero, leB, List.map_append, List.append_assoc]
  simp [u8v]
theorem shr8 {n i : Nat} : (((n / 256 ^ i : Nat) : Int)).fdiv (2 ^ (min (8 : Int).toNat IntKind.u64.bits)) = ((n / 256 ^ (i + 1) : Nat) : Int) := by
  have : (2 : Int) ^ (min (8 : Int).toNat IntKind.u64.bits) = ((256 : Nat) : Int) := by rfl
  rw [this, Int.fdiv_eq_ediv_of_nonneg _ (by omega), ← Int.natCast_ediv, Nat.div_div_eq_div_mul, ← Nat.pow_succ]
/-- A row of bytes. -/
def BR (L : Nat) (xs : List UInt8) (v : Value) (R : MM) : Prop := RowOk L 5 1 (xs.map u8v) xs.length v R
end Go.Sx
/- The reference's writers: Fixed and put, small-endian and wide. Conditions: the row lies in memory. -/
namespace Go.Proofs.YtgkjnkhoopcjgaaDoor
open Go.Sx
set_option maxRecDepth 100000
set_option maxHeartbeats 1000000

theorem one_bytes (xs : List UInt8) : (xs.map u8v).all (·.oneCell') = true := by
 rw [List.all_map, List.all_eq_true]
 intro x _; rfl

theorem fix50 {n s : Nat} {w : World} (hs : s ≤ 8) (hn : n < 18446744073709551616) :
  Calls Tryd.prog 50 #[.int .u64 (n : Int), .int .i64 (s : Int), .bool false] w fun en w' => en = .returned (.slice (some ⟨w.heap.size, 0, none⟩) s s) ∧ Mem w E0 (w.heap.size + 1) [(w.heap.size, .cells ((leB n s).map u8v).toArray 5 (0, 0))] w' := by
 refine begins E0 Tryd.func50 rfl Tryd.ntmps50 rfl [(0, _), (1, _), (2, _)] ⟨rfl, rfl, rfl, trivial⟩ [] trivial List.nodup_nil ?_
 refine scR ?_
 refine sqA rfl rfl ?_
 refine sqKR [0, 1, 2] rfl ?_
 refine sqM rfl rfl ?_
 refine sq_m (m_make rfl rfl Tryd.underlying22 (by kernel_rfl) (i := Tryd.t5) (z := .int .u8 0) (by kernel_rfl) t5_size rfl (Nat.le_refl _) (by rw [t5_bytes]; omega) (by omega)) rfl (fun _ _ => ?_)
 refine sqA rfl rfl ?_
 refine sqK [0, 1, 2, 7] rfl ?_
 refine sc_seq ?_
 refine scR ?_
 refine sqA rfl rfl ?_
 refine sqZ ?_
 refine sc_block ?_
 refine sc_mem (ms := [(w.heap.size, .cells ((leB n 0).map u8v ++ List.replicate (s - 0) (Value.int .u8 0)).toArray 5 (0, 0))]) (fun w1 h => h) ?_
 refine sc_loop (ι := Nat) (fun i => [(0, .int .u64 ((n / 256 ^ i : Nat) : Int)), (1, .int .i64 (s : Int)), (2, .bool false), (7, .slice (some ⟨w.heap.size, 0, none⟩) s s), (8, .int .i64 (i : Int))]) (fun _ => w.heap.size + 1) (fun i => [(w.heap.size, .cells ((leB n i).map u8v ++ List.replicate (s - i) (Value.int .u8 0)).toArray 5 (0, 0))]) (fun i => i ≤ s) (fun i => s - i) 0 ⟨Nat.zero_le _, ⟨by rw [Nat.pow_zero, Nat.div_one]; rfl, rfl, rfl, rfl, rfl, trivial⟩, rfl, fun _ h => h⟩ ?_
 intro i hi
 refine sc_seq ?_
 refine scR ?_
 iterate 2 refine sqM rfl rfl ?_
 refine sq_split (q_lss rfl rfl) rfl (fun h3_2 => ?_) (fun h3_2 => ?_)
 ·
  have hin : i < s := by omega
  have hdl : n / 256 ^ i ≤ n := Nat.div_le_self _ _
  refine sqK [0, 1, 2, 7, 8, 14] rfl ?_
  refine sc_cond_t rfl ?_
  refine scS ?_
  refine scK [0, 1, 2, 7, 8] rfl ?_
  refine sc_seq ?_
  refine sc_block ?_
  refine scR ?_
  refine sqM rfl rfl ?_
  refine sqA rfl rfl ?_
  refine sqK [0, 1, 2, 7, 8, 9] rfl ?_
  refine sc_seq ?_
  refine scR ?_
  refine sqM rfl rfl ?_
  refine sqZ ?_
  refine sc_cond_f rfl ?_
  refine scS ?_
  refine scK [0, 1, 2, 7, 8, 9] rfl ?_
  refine scR ?_
  iterate 3 refine sqM rfl rfl ?_
  refine sq_q (q_conv (r := ((n / 256 ^ i % 256 : Nat) : Int)) rfl Tryd.runUnderlying23 Tryd.runUnderlying5 (by rw [m_u8]; omega)) rfl ?_
  refine sq_q (q_index (j := i) rfl rfl Tryd.runUnderlying22 Tryd.sizeOf5 ⟨by omega, by omega⟩ (by rw [Int.toNat_natCast]; omega)) rfl ?_
  refine sq_m0 (m_store rfl rfl Tryd.sizeOf5 rfl (i := 0) rfl (setK_mk (by simp [leB_length]; omega) (congrArg some (leB_set hin))) rfl (by intro h; omega)) (fun _ _ => ?_)
  refine sqK [0, 1, 2, 7, 8] rfl ?_
  refine sc_region ?_
  refine sqM rfl rfl ?_
  refine sq_q (q_shr rfl rfl (by decide) shr8) rfl ?_
  refine sqA rfl rfl ?_
  refine sq_nil ?_
  refine se_block ?_
  refine se_seq ?_
  refine scK [0, 1, 2, 7, 8] rfl ?_
  refine sc_region ?_
  refine sqM rfl rfl ?_
  refine sq_q (q_add (r := ((i + 1 : Nat) : Int)) rfl rfl (w_i64e (by omega) (by omega) (by omega))) rfl ?_
  refine sqA rfl rfl ?_
  refine sq_nil ?_
  refine se_loop (i + 1) (by omega) (by omega) ⟨rfl, rfl, rfl, rfl, rfl, trivial⟩ (fun _ h => h)
 refine sqK [0, 1, 2, 7, 8, 14] rfl ?_
 refine sc_cond_f rfl ?_
 refine sc_exit ?_
 iterate 2 refine se_then_exit ?_
 refine se_block_hit ?_
 refine se_seq ?_
 refine scK [7] rfl ?_
 refine scR ?_
 refine sqM rfl rfl ?_
 refine sqA rfl rfl ?_
 refine sqK [6] rfl ?_
 refine sc_ret ?_
 exact se_end (res1 Tryd.results50 rfl) (fun w' hw => ⟨rfl, by
  have h9 : i = s := by omega
  subst h9
  rw [Nat.sub_self] at hw
  simpa using hw⟩)

theorem fix_inv {w0 : World} {fm : FM} {N : Nat} {mm : MM} {x y z : Operand} {ts : Array TypeId} {d : Option Nat} {ty : TypeId} {pos : String} {after : Array Edge} {gd : Option (Nat × Bool)} {n s : Nat} (hs : s ≤ 8) (hn : n < 18446744073709551616) {E : Nat → Prop}
  (hx : fm.ev x = some (.int .u64 (n : Int))) (hy : fm.ev y = some (.int .i64 (s : Int))) (hz : fm.ev z = some (.bool false)) :
  Main Tryd.prog w0 E fm N mm ⟨d, .call { callee := .value (.func 50), args := #[x, y, z], argTypes := ts }, ty, pos, after, gd⟩ (fun _ : Unit => .slice (some ⟨N, 0, none⟩) s s) (fun _ => N + 1) (fun _ => (N, .cells ((leB n s).map u8v).toArray 5 (0, 0)) :: mm) (fun _ => True) := by
 refine m_call (args3 hx hy hz) Tryd.call50 fun w hw => (fix50 hs hn).mono fun en w' ⟨h1, h2⟩ => ?_
 rw [hw.size] at h1 h2
 refine ⟨(), trivial, h1, ?_⟩
 have h3 := hw.call_new h2.eff [(N, .cells ((leB n s).map u8v).toArray 5 (0, 0))] h2.has (fun p hp => by rw [List.mem_singleton.1 hp]; exact Nat.le_refl _) (by simp)
 rw [h2.size] at h3
 exact h3

/-- How put ends. -/
def PutR (rb L : Nat) (xs ys : List UInt8) (R : MM) (w : World) (en : Ending) (w' : World) : Prop :=
 ∃ q : Ry, en = .returned (.tuple #[]) ∧ w.heap.size ≤ q.N ∧ BR L (xs ++ ys) q.v q.R ∧ (∀ p ∈ q.R, (∃ p' ∈ R, p'.1 = p.1) ∨ w.heap.size + 1 ≤ p.1) ∧ Eff (fun k => k = rb ∨ ∃ p ∈ R, p.1 = k) w w' ∧ Has ((rb, .cells [.bool true, .bool false, q.v].toArray 168 (0, 0)) :: q.R) w' ∧ (((rb, .cells [.bool true, .bool false, q.v].toArray 168 (0, 0)) :: q.R).map Prod.fst).Nodup

theorem put45_n {n s rb L : Nat} {v : Value} {xs : List UInt8} {R : MM} {w : World} (h0 : 0 < s) (hs : s ≤ 8) (hn : n < 18446744073709551616) (hl : xs.length ≤ 1000000) (hr : BR L xs v R) (hM : Has ((rb, .cells [.bool true, .bool false, v].toArray 168 (0, 0)) :: (R ++ [])) w) (hnd : (((rb, .cells [.bool true, .bool false, v].toArray 168 (0, 0)) :: (R ++ [])).map Prod.fst).Nodup) (hL : L ≤ w.heap.size) :
  Calls Tryd.prog 45 #[.pointer (some ⟨rb, 0, none⟩), .int .u64 (n : Int), .int .i64 (s : Int)] w fun en w' => PutR rb L xs (leB n s) R w en w' := by
 unfold BR at hr
 refine enter (E := fun k => k = rb ∨ ∃ p ∈ R, p.1 = k) Tryd.func45 rfl Tryd.ntmps45 (Nat.le_of_ble_eq_true rfl) [(0, _), (1, _), (2, _)] (AOk.get («as» := [_, _, _]) ⟨rfl, rfl, rfl, trivial⟩) ((rb, .cells [.bool true, .bool false, v].toArray 168 (0, 0)) :: (R ++ [])) hM hnd ?_
 refine sc_seq ?_
 refine scR ?_
 refine sqM rfl rfl ?_
 refine sq_q (q_decF (q_eql rfl rfl) (by omega)) rfl ?_
 refine sqK [0, 1, 2, 7] rfl ?_
 refine sc_cond_f rfl ?_
 refine scS ?_
 refine scK [0, 1, 2] rfl ?_
 refine sc_draw [0, 1, 2, 3, 4, 5, 6, 7, 8, 9, 10, 11, 12, 13, 14, 15] [11, 12, 15] [(rb, .cells [.bool true, .bool false, v].toArray 168 (0, 0))] mixed (by kernel_rfl) (by kernel_rfl) (fun _ h => by rw [List.mem_singleton.1 h]; exact List.mem_cons_self) ?_
 iterate 2 refine drM rfl rfl rfl ?_
 refine dr_q rfl rfl (q_nil rfl) ?_
 refine dr_q rfl rfl (q_fieldj (j := 2) rfl Tryd.runUnderlying168 rfl Tryd.sizeOf22 rfl) ?_
 refine dr_q rfl rfl (q_load1 rfl Tryd.isAgg22 (i := 0) rfl rfl) ?_
 iterate 3 refine drM rfl rfl rfl ?_
 refine dr_q rfl rfl (q_nil rfl) ?_
 refine dr_q rfl rfl (q_fieldj (j := 1) rfl Tryd.runUnderlying168 rfl Tryd.sizeOf4 rfl) ?_
 refine dr_q rfl rfl (q_load1 rfl Tryd.isAgg4 (i := 0) rfl rfl) ?_
 refine dr_m rfl rfl (fix_inv (s := s) hs hn rfl rfl rfl) (fun _ _ p hp => by rw [List.mem_singleton.1 hp]; exact List.mem_cons_of_mem _ List.mem_cons_self) (fun _ _ => ?_)
 refine dr_m rfl rfl (m_app_src (i := Tryd.t5) (z := .int .u8 0) (k := 1) (m := s) hr rfl rfl (fun w1 h1 => src_at h1 Tryd.underlying22 (j := 0) rfl (news := (leB n s).map u8v) (by rw [List.drop_zero, List.take_of_length_le (by rw [List.length_map, leB_length]; omega)]) (by rw [List.length_map, leB_length]; omega) (one_bytes _)) (pull R [] [[_, _]]) (fun R' => push R' [] [[_, _]]) Tryd.underlying22 (by kernel_rfl) (by kernel_rfl) t5_size (by kernel_rfl) (by omega) (by rw [t5_bytes]; omega) (by omega) (fun p hp _ => .inr ⟨p, hp, rfl⟩)) (fun _ _ p hp => by rw [List.mem_singleton.1 hp]; exact List.mem_cons_of_mem _ List.mem_cons_self) (fun q hq => ?_)
 refine dr_q rfl rfl (q_nil rfl) ?_
 refine dr_q rfl rfl (q_fieldj (j := 2) rfl Tryd.runUnderlying168 rfl Tryd.sizeOf22 rfl) ?_
 refine dr_m0l rfl rfl (m_store rfl rfl Tryd.sizeOf22 hq.2.1.one (i := 1) rfl rfl rfl (fun _ => .inl rfl)) (by kernel_rfl) (fun _ _ => ?_)
 refine dr_nil ?_
 refine se_end' (res0 Tryd.results45) (fun w' hw => ?_)
 have hw2 : Mem w _ _ (_ :: ((rb, .cells [.bool true, .bool false, q.v].toArray 168 (0, 0)) :: (q.R ++ []))) w' := hw
 rw [List.append_nil] at hw2
 exact ⟨q, rfl, Nat.le_trans (Nat.le_succ _) hq.1, by have h9 := hq.2.1; rw [← List.map_append] at h9; unfold BR; rw [List.length_append, leB_length]; exact h9, hq.2.2, hw2.eff, fun p hp => hw2.has p (List.mem_cons_of_mem _ hp), (List.nodup_cons.1 hw2.nd).2⟩

theorem put45_a {n rb L : Nat} {v : Value} {xs : List UInt8} {R : MM} {w : World} (hn : n < 18446744073709551616) (hl : xs.length ≤ 1000000) (hr : BR L xs v R) (hM : Has ((rb, .cells [.bool true, .bool false, v].toArray 168 (0, 0)) :: (R ++ [])) w) (hnd : (((rb, .cells [.bool true, .bool false, v].toArray 168 (0, 0)) :: (R ++ [])).map Prod.fst).Nodup) (hL : L ≤ w.heap.size) :
  Calls Tryd.prog 45 #[.pointer (some ⟨rb, 0, none⟩), .int .u64 (n : Int), .int .i64 0] w fun en w' => PutR rb L xs (leB n 8) R w en w' := by
 unfold BR at hr
 refine enter (E := fun k => k = rb ∨ ∃ p ∈ R, p.1 = k) Tryd.func45 rfl Tryd.ntmps45 (Nat.le_of_ble_eq_true rfl) [(0, _), (1, _), (2, _)] (AOk.get («as» := [_, _, _]) ⟨rfl, rfl, rfl, trivial⟩) ((rb, .cells [.bool true, .bool false, v].toArray 168 (0, 0)) :: (R ++ [])) hM hnd ?_
 refine sc_seq ?_
 refine scR ?_
 refine sqM rfl rfl ?_
 refine sq_q (q_decT (q_eql rfl rfl) (rfl)) rfl ?_
 refine sqK [0, 1, 2, 7] rfl ?_
 refine sc_cond_t rfl ?_
 refine scR ?_
 refine sqA rfl rfl ?_
 refine sqKR [0, 1, 2] rfl ?_
 refine sqM rfl rfl ?_
 refine sq_q (q_nil rfl) rfl ?_
 refine sq_q (q_fieldj (j := 0) rfl Tryd.runUnderlying168 rfl Tryd.sizeOf4 rfl) rfl ?_
 refine sq_q (q_load1 rfl Tryd.isAgg4 (i := 0) rfl rfl) rfl ?_
 refine sqK [0, 1, 2, 11] rfl ?_
 refine sc_cond_t rfl ?_
 refine sc_region ?_
 refine sqA rfl rfl ?_
 refine sqK [0, 1, 2] rfl ?_
 refine sc_draw [0, 1, 2, 3, 4, 5, 6, 7, 8, 9, 10, 11, 12, 13, 14, 15] [11, 12, 15] [(rb, .cells [.bool true, .bool false, v].toArray 168 (0, 0))] mixed (by kernel_rfl) (by kernel_rfl) (fun _ h => by rw [List.mem_singleton.1 h]; exact List.mem_cons_self) ?_
 iterate 2 refine drM rfl rfl rfl ?_
 refine dr_q rfl rfl (q_nil rfl) ?_
 refine dr_q rfl rfl (q_fieldj (j := 2) rfl Tryd.runUnderlying168 rfl Tryd.sizeOf22 rfl) ?_
 refine dr_q rfl rfl (q_load1 rfl Tryd.isAgg22 (i := 0) rfl rfl) ?_
 iterate 3 refine drM rfl rfl rfl ?_
 refine dr_q rfl rfl (q_nil rfl) ?_
 refine dr_q rfl rfl (q_fieldj (j := 1) rfl Tryd.runUnderlying168 rfl Tryd.sizeOf4 rfl) ?_
 refine dr_q rfl rfl (q_load1 rfl Tryd.isAgg4 (i := 0) rfl rfl) ?_
 refine dr_m rfl rfl (fix_inv (s := 8) (by omega) hn rfl rfl rfl) (fun _ _ p hp => by rw [List.mem_singleton.1 hp]; exact List.mem_cons_of_mem _ List.mem_cons_self) (fun _ _ => ?_)
 refine dr_m rfl rfl (m_app_src (i := Tryd.t5) (z := .int .u8 0) (k := 1) (m := 8) hr rfl rfl (fun w1 h1 => src_at h1 Tryd.underlying22 (j := 0) rfl (news := (leB n 8).map u8v) (by rw [List.drop_zero, List.take_of_length_le (by rw [List.length_map, leB_length]; omega)]) (by rw [List.length_map, leB_length]; omega) (one_bytes _)) (pull R [] [[_, _]]) (fun R' => push R' [] [[_, _]]) Tryd.underlying22 (by kernel_rfl) (by kernel_rfl) t5_size (by kernel_rfl) (by omega) (by rw [t5_bytes]; omega) (by omega) (fun p hp _ => .inr ⟨p, hp, rfl⟩)) (fun _ _ p hp => by rw [List.mem_singleton.1 hp]; exact List.mem_cons_of_mem _ List.mem_cons_self) (fun q hq => ?_)
 refine dr_q rfl rfl (q_nil rfl) ?_
 refine dr_q rfl rfl (q_fieldj (j := 2) rfl Tryd.runUnderlying168 rfl Tryd.sizeOf22 rfl) ?_
 refine dr_m0l rfl rfl (m_store rfl rfl Tryd.sizeOf22 hq.2.1.one (i := 1) rfl rfl rfl (fun _ => .inl rfl)) (by kernel_rfl) (fun _ _ => ?_)
 refine dr_nil ?_
 refine se_end' (res0 Tryd.results45) (fun w' hw => ?_)
 have hw2 : Mem w _ _ (_ :: ((rb, .cells [.bool true, .bool false, q.v].toArray 168 (0, 0)) :: (q.R ++ []))) w' := hw
 rw [List.append_nil] at hw2
 exact ⟨q, rfl, Nat.le_trans (Nat.le_succ _) hq.1, by have h9 := hq.2.1; rw [← List.map_append] at h9; unfold BR; rw [List.length_append, leB_length]; exact h9, hq.2.2, hw2.eff, fun p hp => hw2.has p (List.mem_cons_of_mem _ hp), (List.nodup_cons.1 hw2.nd).2⟩

end Go.Proofs.YtgkjnkhoopcjgaaDoor
/- A call of put, as a step of a walk. Conditions: the row is the walk's own. -/
namespace Go.Proofs.YtgkjnkhoopcjgaaDoor
open Go.Sx
set_option maxRecDepth 100000

abbrev rowO (v : Value) : Obj := .cells [.bool true, .bool false, v].toArray 168 (0, 0)
theorem put_inv {w0 : World} {fm : FM} {N : Nat} {mm rest : MM} {x y z : Operand} {ts : Array TypeId} {d : Option Nat} {ty : TypeId} {pos : String} {after : Array Edge} {gd : Option (Nat × Bool)} {n s sz rb : Nat} {v : Value} {xs : List UInt8} {R : MM}
    (hk : (s = sz ∧ 0 < sz ∧ sz ≤ 8) ∨ (s = 0 ∧ sz = 8)) (hn : n < 18446744073709551616) (hl : xs.length ≤ 1000000) (hr : BR w0.heap.size xs v R) (hp : mm.Perm ((rb, rowO v) :: (R ++ rest))) (hL : w0.heap.size ≤ rb)
    (hx : fm.ev x = some (.pointer (some ⟨rb, 0, none⟩))) (hy : fm.ev y = some (.int .u64 (n : Int))) (hz : fm.ev z = some (.int .i64 (s : Int))) :
    Main Tryd.prog w0 E0 fm N mm ⟨d, .call { callee := .value (.func 45), args := #[x, y, z], argTypes := ts }, ty, pos, after, gd⟩ (fun _ : Ry => .tuple #[]) (fun q => q.N) (fun q => (rb, rowO q.v) :: (q.R ++ rest))
      (fun q => N ≤ q.N ∧ BR w0.heap.size (xs ++ leB n sz) q.v q.R) := by
  refine m_call (args3 hx hy hz) Tryd.call45 fun w hw => ?_
  have hw2 : Mem w0 E0 N ((rb, rowO v) :: (R ++ rest)) w := hw.perm hp.symm
  have hsub : ((rb, rowO v) :: (R ++ [])).Sublist ((rb, rowO v) :: (R ++ rest)) := .cons_cons _ (.append_left (List.nil_sublist _) R)
  have hM : Has ((rb, rowO v) :: (R ++ [])) w := fun p hp => hw2.has p (hsub.subset hp)
  have hnd := (hsub.map Prod.fst).nodup hw2.nd
  have hge := hw2.ge
  have hge2 : w0.heap.size ≤ w.heap.size := by rw [hw.size]; exact hge
  have key : Calls Tryd.prog 45 #[.pointer (some ⟨rb, 0, none⟩), .int .u64 (n : Int), .int .i64 (s : Int)] w fun en w' => PutR rb w0.heap.size xs (leB n sz) R w en w' := by
    rcases hk with ⟨rfl, h1, h2⟩ | ⟨rfl, rfl⟩
    · exact put45_n h1 h2 hn hl hr hM hnd hge2
    · exact put45_a hn hl hr hM hnd hge2
  refine key.mono fun en w' ⟨q, h1, h2, h3, h4, h5, h6, h7⟩ => ?_
  refine ⟨⟨q.v, q.R, w'.heap.size⟩, ⟨by rw [← hw.size]; exact h5.size, h3⟩, h1, ?_⟩
  have hlow := RowOk_low hr
  have hrest : ∀ p ∈ rest, p ∈ (rb, rowO v) :: (R ++ rest) := fun p hp => List.mem_cons_of_mem _ (List.mem_append_right _ hp)
  have hnd2 := List.nodup_cons.1 hw2.nd
  rw [List.map_append] at hnd2
  have hnd3 := List.nodup_append.1 hnd2.2
  have h8 := hw2.call h5 (by rintro k (rfl | ⟨p, hp, rfl⟩) hk; · omega
                             · have := hlow p hp; omega) rest ((rb, rowO q.v) :: q.R) hrest (by
    rintro p hp (he | ⟨p', hp', he⟩)
    · exact hnd2.1 (List.mem_append_right _ (by have h9 := List.mem_map_of_mem (f := Prod.fst) hp; rw [he] at h9; exact h9))
    · exact hnd3.2.2 p'.1 (List.mem_map_of_mem hp') p.1 (List.mem_map_of_mem hp) he) h6 (by
    rw [List.map_append]
    refine List.nodup_append.2 ⟨h7, hnd3.2.1, ?_⟩
    intro a ha b hb hab
    obtain ⟨pb, hpb, rfl⟩ := List.mem_map.1 hb
    subst hab
    rw [List.map_cons] at ha
    rcases List.mem_cons.1 ha with he | he
    · exact hnd2.1 (List.mem_append_right _ (by have h9 := List.mem_map_of_mem (f := Prod.fst) hpb; rw [he] at h9; exact h9))
    · obtain ⟨po, ho, he⟩ := List.mem_map.1 he
      rcases h4 _ ho with ⟨p', hp', he2⟩ | hge3
      · exact hnd3.2.2 p'.1 (List.mem_map_of_mem hp') pb.1 (List.mem_map_of_mem hpb) (he2.trans he)
      · have := hw2.lt (hrest pb hpb)
        have h9 := hw.size
        omega)
  exact h8
section
variable {w0 : World} {fm : FM} {N : Nat} {mm rest : MM} {x y z : Operand} {ts : Array TypeId} {d : Nat} {ty : TypeId} {pos : String} {after : Array Edge} {nt : Nat} {ops : Array Oper} {Q : Exit → Act → World → Prop} {r : List Oper} {s rb : Nat} {v : Value} {xs : List UInt8} {R : MM}
/-- A call of put in a walk. -/
theorem sq_put (n sz : Nat) (hx : fm.ev x = some (.pointer (some ⟨rb, 0, none⟩))) (hy : fm.ev y = some (.int .u64 (n : Int))) (hz : fm.ev z = some (.int .i64 (s : Int))) (hk : (s = sz ∧ 0 < sz ∧ sz ≤ 8) ∨ (s = 0 ∧ sz = 8)) (hn : n < 18446744073709551616) (hl : xs.length ≤ 1000000) (hr : BR w0.heap.size xs v R)
    (hp : mm.Perm ((rb, rowO v) :: (R ++ rest))) (hL : w0.heap.size ≤ rb) (hd : Nat.blt d nt = true)
    (h : ∀ (v' : Value) (b cap N' : Nat) (pad : List Value), v' = .slice (some ⟨b, 0, none⟩) (xs ++ leB n sz).length cap → N ≤ N' → w0.heap.size ≤ b → BR w0.heap.size (xs ++ leB n sz) v' [(b, .cells ((xs ++ leB n sz).map u8v ++ pad).toArray 5 (0, 0))] →
      Sq Tryd.prog ops Q nt w0 E0 r ((d, .tuple #[]) :: fm) N' ((rb, rowO v') :: (b, .cells ((xs ++ leB n sz).map u8v ++ pad).toArray 5 (0, 0)) :: rest)) :
    Sq Tryd.prog ops Q nt w0 E0 (⟨some d, .call { callee := .value (.func 45), args := #[x, y, z], argTypes := ts }, ty, pos, after, none⟩ :: r) fm N mm := by
  refine sq_m (put_inv hk hn hl hr hp hL hx hy hz) hd fun q hq => ?_
  obtain ⟨v, R, N'⟩ := q
  obtain ⟨h1, h2⟩ := hq
  dsimp only at h1 h2
  have h0 : 0 < sz := by omega
  obtain ⟨b, cap, pad, rfl, rfl, h3⟩ := RowOk.told h2 (by rw [List.length_append, leB_length]; omega)
  exact h _ b cap N' pad rfl h1 h3 h2
end
end Go.Proofs.YtgkjnkhoopcjgaaDoor
/- The reference's rows: Size, SectionRow, headerRow of one small file. Conditions: the numbers have room. -/
namespace Go.Proofs.YtgkjnkhoopcjgaaDoor
open Go.Sx
set_option maxRecDepth 100000
set_option maxHeartbeats 1000000

/-- A function that gives a row of its own. -/
def FreshR (e : TypeId) (k : Nat) (xs : List Value) (n : Nat) (w : World) (en : Ending) (w' : World) : Prop := ∃ v R, en = .returned v ∧ RowOk w.heap.size e k xs n v R ∧ Eff E0 w w' ∧ Has R w'
theorem _root_.Go.Sx.RowOk.low {L L' : Nat} {e : TypeId} {k n : Nat} {xs : List Value} {v : Value} {R : MM} (h : RowOk L e k xs n v R) (hL : L' ≤ L) : RowOk L' e k xs n v R :=
 RowOk_up h fun p hp => Nat.le_trans hL (RowOk_low h p hp)
theorem fresh_mem {w0 w w' : World} {N : Nat} {mm : MM} {e : TypeId} {k n : Nat} {xs : List Value} {v : Value} {R : MM} {E : Nat → Prop} (hw : Mem w0 E N mm w) (hr : RowOk w.heap.size e k xs n v R) (he : Eff E0 w w') (hh : Has R w') : Mem w0 E w'.heap.size (R ++ mm) w' := by
 refine hw.call_new he R hh (fun p hp => by rw [← hw.size]; exact RowOk_low hr p hp) ?_
 rcases hr.2 with ⟨_, _, rfl⟩ | ⟨b, _, _, _, rfl, _⟩ <;> simp
theorem fresh_inv {w0 : World} {E : Nat → Prop} {fm : FM} {N : Nat} {mm : MM} {f : FuncId} {xs : Array Operand} {vs : Array Value} {ts : Array TypeId} {d : Option Nat} {ty : TypeId} {pos : String} {after : Array Edge} {gd : Option (Nat × Bool)} {e : TypeId} {k n : Nat} {ys : List Value}
  (hargs : ∀ ρ, Agr fm ρ → xs.map ρ = vs) (hc : ∀ args w, (callFunc f args).run Tryd.prog w = .ok (.enter f args) w) (h : ∀ w, Mem w0 E N mm w → Calls Tryd.prog f vs w (FreshR e k ys n w)) :
  Main Tryd.prog w0 E fm N mm ⟨d, .call { callee := .value (.func f), args := xs, argTypes := ts }, ty, pos, after, gd⟩ (fun q : Ry => q.v) (fun q => q.N) (fun q => q.R ++ mm) (fun q => N ≤ q.N ∧ RowOk w0.heap.size e k ys n q.v q.R ∧ True) := by
 refine m_call hargs hc fun w hw => (h w hw).mono fun en w' ⟨v, R, h1, h2, h3, h4⟩ => ?_
 exact ⟨⟨v, R, w'.heap.size⟩, ⟨by rw [← hw.size]; exact h3.size, h2.low (by rw [hw.size]; exact hw.ge), trivial⟩, h1, fresh_mem hw h2 h3 h4⟩

theorem size46 {nm : ByteArray} {tp al dl dc : Nat} {ad : Option Addr} {w : World} (ht : tp ≠ 8) (hd : dl < 9223372036854775808) :
  Calls Tryd.prog 46 #[.agg [.string nm, .int .u32 (tp : Int), .int .u32 0, .int .u64 0, .int .u32 0, .int .u32 0, .int .u64 (al : Int), .int .u64 0, .int .u64 0, .slice ad dl dc].toArray] w fun en w' => en = .returned (.int .u64 (dl : Int)) ∧ Eff E0 w w' := by
 refine begins E0 Tryd.func46 rfl Tryd.ntmps46 rfl [(0, _)] ⟨rfl, trivial⟩ [] trivial List.nodup_nil ?_
 refine scR ?_
 refine sq_m (m_box rfl rfl) rfl (fun _ _ => ?_)
 refine sqA rfl rfl ?_
 refine sqK [1] rfl ?_
 refine sc_seq ?_
 refine scR ?_
 refine sq_q (q_fieldj (j := 1) rfl Tryd.runUnderlying126 rfl Tryd.sizeOf74 rfl) rfl ?_
 refine sq_q (q_load1 rfl Tryd.isAgg74 (i := 0) rfl rfl) rfl ?_
 refine sq_q (q_decF (q_eql rfl rfl) (by omega)) rfl ?_
 refine sqK [1, 5] rfl ?_
 refine sc_cond_f rfl ?_
 refine scS ?_
 refine scK [1] rfl ?_
 refine scR ?_
 refine sq_q (q_fieldj (j := 9) rfl Tryd.runUnderlying126 rfl Tryd.sizeOf22 rfl) rfl ?_
 refine sq_q (q_load1 rfl Tryd.isAgg22 (i := 0) rfl rfl) rfl ?_
 refine sq_q (q_len rfl Tryd.runUnderlying22) rfl ?_
 refine sq_q (q_conv rfl Tryd.runUnderlying3 Tryd.runUnderlying23 (w_u64 (by omega) (by omega))) rfl ?_
 refine sqA rfl rfl ?_
 refine sqK [2] rfl ?_
 refine sc_ret ?_
 exact se_end (res1 Tryd.results46 rfl) (fun w' hw => ⟨rfl, hw.eff⟩)

theorem size_inv {w0 : World} {E : Nat → Prop} {fm : FM} {N : Nat} {mm : MM} {x : Operand} {ts : Array TypeId} {d : Option Nat} {ty : TypeId} {pos : String} {after : Array Edge} {gd : Option (Nat × Bool)} {nm : ByteArray} {tp al dl dc : Nat} {ad : Option Addr} (ht : tp ≠ 8) (hd : dl < 9223372036854775808)
  (hx : fm.ev x = some (.agg [.string nm, .int .u32 (tp : Int), .int .u32 0, .int .u64 0, .int .u32 0, .int .u32 0, .int .u64 (al : Int), .int .u64 0, .int .u64 0, .slice ad dl dc].toArray)) : Main Tryd.prog w0 E fm N mm ⟨d, .call { callee := .value (.func 46), args := #[x], argTypes := ts }, ty, pos, after, gd⟩ (fun _ : Nat => .int .u64 (dl : Int)) (fun n => n) (fun _ => mm) (fun n => N ≤ n) := by
 refine m_call (args1 hx) Tryd.call46 fun w hw => (size46 ht hd).mono fun en w' ⟨h1, h2⟩ => ?_
 exact ⟨w'.heap.size, by rw [← hw.size]; exact h2.size, h1, hw.call_new h2 [] (fun p hp => by cases hp) (fun p hp => by cases hp) List.nodup_nil⟩

def secRB (name tp al dl off : Nat) : List UInt8 := (((((((((([] ++ leB name 4) ++ leB tp 4) ++ leB 0 8) ++ leB 0 8) ++ leB off 8) ++ leB dl 8) ++ leB 0 4) ++ leB 0 4) ++ leB al 8) ++ leB 0 8)
theorem hr0 {L : Nat} : BR L [] (.slice none 0 0) [] := ⟨rfl, .inl ⟨rfl, rfl, rfl⟩⟩
theorem secrow30 {nm : ByteArray} {name tp al dl dc off : Nat} {ad : Option Addr} {w : World} (ht : tp ≠ 8) (h1 : name < 4294967296) (h2 : tp < 4294967296) (h3 : al < 4294967296) (h4 : dl < 4294967296) (h5 : off < 4294967296) :
  Calls Tryd.prog 30 #[.agg [.bool true, .bool false, .int .u8 0, .int .u8 0, .int .i64 1, .int .i64 0, .int .u64 0, .slice none 0 0, .slice none 0 0].toArray, .int .i64 (name : Int), .agg [.string nm, .int .u32 (tp : Int), .int .u32 0, .int .u64 0, .int .u32 0, .int .u32 0, .int .u64 (al : Int), .int .u64 0, .int .u64 0, .slice ad dl dc].toArray, .int .i64 (off : Int)] w (FreshR 5 1 ((secRB name tp al dl off).map u8v) (secRB name tp al dl off).length w) := by
 refine begins E0 Tryd.func30 rfl Tryd.ntmps30 rfl [(0, _), (1, _), (2, _), (3, _)] ⟨rfl, rfl, rfl, rfl, trivial⟩ [] trivial List.nodup_nil ?_
 refine scR ?_
 refine sq_m (m_box (l := [.bool true, .bool false, .int .u8 0, .int .u8 0, .int .i64 1, .int .i64 0, .int .u64 0, .slice none 0 0, .slice none 0 0]) rfl rfl) rfl (fun _ _ => ?_)
 refine sq_m (m_box (l := [.string nm, .int .u32 (tp : Int), .int .u32 0, .int .u64 0, .int .u32 0, .int .u32 0, .int .u64 (al : Int), .int .u64 0, .int .u64 0, .slice ad dl dc]) rfl rfl) rfl (fun _ _ => ?_)
 refine sqA rfl rfl ?_
 refine sqKR [1, 3, 4, 6] rfl ?_
 refine sq_q (q_fieldj (j := 0) rfl Tryd.runUnderlying104 rfl Tryd.sizeOf4 rfl) rfl ?_
 refine sq_q (q_load1 rfl Tryd.isAgg4 (i := 1) rfl rfl) rfl ?_
 refine sq_q (q_fieldj (j := 1) rfl Tryd.runUnderlying104 rfl Tryd.sizeOf4 rfl) rfl ?_
 refine sq_q (q_load1 rfl Tryd.isAgg4 (i := 1) rfl rfl) rfl ?_
 refine sq_q (q_build (vs := [(0, _), (1, _)]) (cs := #[.bool true, .bool false, .slice none 0 0]) ⟨rfl, rfl, rfl, rfl, trivial⟩ (fun _ => by kernel_rfl)) rfl ?_
 refine sq_m (m_box rfl rfl) rfl (fun _ _ => ?_)
 refine sqA rfl rfl ?_
 refine sqKR [1, 3, 6, 9] rfl ?_
 iterate 2 refine sqM rfl rfl ?_
 refine sq_q (q_conv rfl Tryd.runUnderlying3 Tryd.runUnderlying23 (w_u64 (by omega) (by omega))) rfl ?_
 refine sq_put (name) 4 rfl rfl rfl (.inl ⟨rfl, by omega, by omega⟩) (by omega) (by simp [leB_length]) hr0 (List.Perm.refl _) (by omega) rfl (fun v1 b1 c1 N1 p1 hv1 hN1 hb1 hr1 => ?_)
 refine sqKR [3, 6, 9] rfl ?_
 refine sqM rfl rfl ?_
 refine sq_q (q_fieldj (j := 1) rfl Tryd.runUnderlying126 rfl Tryd.sizeOf74 rfl) rfl ?_
 refine sq_q (q_load1 rfl Tryd.isAgg74 (i := 2) rfl rfl) rfl ?_
 refine sq_q (q_conv rfl Tryd.runUnderlying74 Tryd.runUnderlying23 (w_u64 (by omega) (by omega))) rfl ?_
 refine sq_put (tp) 4 rfl rfl rfl (.inl ⟨rfl, by omega, by omega⟩) (by omega) (by simp [leB_length]) hr1 (List.Perm.refl _) (by omega) rfl (fun v2 b2 c2 N2 p2 hv2 hN2 hb2 hr2 => ?_)
 refine sqKR [3, 6, 9] rfl ?_
 refine sqM rfl rfl ?_
 refine sq_q (q_fieldj (j := 2) rfl Tryd.runUnderlying126 rfl Tryd.sizeOf74 rfl) rfl ?_
 refine sq_q (q_load1 rfl Tryd.isAgg74 (i := 2) rfl rfl) rfl ?_
 refine sq_q (q_conv rfl Tryd.runUnderlying74 Tryd.runUnderlying23 (w_u64 (by omega) (by omega))) rfl ?_
 refine sq_put (0) 8 rfl rfl rfl (.inr ⟨rfl, rfl⟩) (by omega) (by simp [leB_length]) hr2 (List.Perm.refl _) (by omega) rfl (fun v3 b3 c3 N3 p3 hv3 hN3 hb3 hr3 => ?_)
 refine sqKR [3, 6, 9] rfl ?_
 refine sqM rfl rfl ?_
 refine sq_q (q_fieldj (j := 3) rfl Tryd.runUnderlying126 rfl Tryd.sizeOf23 rfl) rfl ?_
 refine sq_q (q_load1 rfl Tryd.isAgg23 (i := 2) rfl rfl) rfl ?_
 refine sq_put (0) 8 rfl rfl rfl (.inr ⟨rfl, rfl⟩) (by omega) (by simp [leB_length]) hr3 (List.Perm.refl _) (by omega) rfl (fun v4 b4 c4 N4 p4 hv4 hN4 hb4 hr4 => ?_)
 refine sqKR [3, 6, 9] rfl ?_
 iterate 2 refine sqM rfl rfl ?_
 refine sq_q (q_conv rfl Tryd.runUnderlying3 Tryd.runUnderlying23 (w_u64 (by omega) (by omega))) rfl ?_
 refine sq_put (off) 8 rfl rfl rfl (.inr ⟨rfl, rfl⟩) (by omega) (by simp [leB_length]) hr4 (List.Perm.refl _) (by omega) rfl (fun v5 b5 c5 N5 p5 hv5 hN5 hb5 hr5 => ?_)
 refine sqKR [6, 9] rfl ?_
 refine sqM rfl rfl ?_
 refine sq_q (q_loadK rfl Tryd.isAgg126 Tryd.sizeOf126 (i := 2) (vs := [.string nm, .int .u32 (tp : Int), .int .u32 0, .int .u64 0, .int .u32 0, .int .u32 0, .int .u64 (al : Int), .int .u64 0, .int .u64 0, .slice ad dl dc]) rfl rfl) rfl ?_
 refine sq_m (size_inv ht (by omega) rfl) rfl (fun Ns hNs => ?_)
 refine sq_put (dl) 8 rfl rfl rfl (.inr ⟨rfl, rfl⟩) (by omega) (by simp [leB_length]) hr5 (List.Perm.refl _) (by omega) rfl (fun v6 b6 c6 N6 p6 hv6 hN6 hb6 hr6 => ?_)
 refine sqKR [6, 9] rfl ?_
 refine sqM rfl rfl ?_
 refine sq_q (q_fieldj (j := 4) rfl Tryd.runUnderlying126 rfl Tryd.sizeOf74 rfl) rfl ?_
 refine sq_q (q_load1 rfl Tryd.isAgg74 (i := 2) rfl rfl) rfl ?_
 refine sq_q (q_conv rfl Tryd.runUnderlying74 Tryd.runUnderlying23 (w_u64 (by omega) (by omega))) rfl ?_
 refine sq_put (0) 4 rfl rfl rfl (.inl ⟨rfl, by omega, by omega⟩) (by omega) (by simp [leB_length]) hr6 (List.Perm.refl _) (by omega) rfl (fun v7 b7 c7 N7 p7 hv7 hN7 hb7 hr7 => ?_)
 refine sqKR [6, 9] rfl ?_
 refine sqM rfl rfl ?_
 refine sq_q (q_fieldj (j := 5) rfl Tryd.runUnderlying126 rfl Tryd.sizeOf74 rfl) rfl ?_
 refine sq_q (q_load1 rfl Tryd.isAgg74 (i := 2) rfl rfl) rfl ?_
 refine sq_q (q_conv rfl Tryd.runUnderlying74 Tryd.runUnderlying23 (w_u64 (by omega) (by omega))) rfl ?_
 refine sq_put (0) 4 rfl rfl rfl (.inl ⟨rfl, by omega, by omega⟩) (by omega) (by simp [leB_length]) hr7 (List.Perm.refl _) (by omega) rfl (fun v8 b8 c8 N8 p8 hv8 hN8 hb8 hr8 => ?_)
 refine sqKR [6, 9] rfl ?_
 refine sqM rfl rfl ?_
 refine sq_q (q_fieldj (j := 6) rfl Tryd.runUnderlying126 rfl Tryd.sizeOf23 rfl) rfl ?_
 refine sq_q (q_load1 rfl Tryd.isAgg23 (i := 2) rfl rfl) rfl ?_
 refine sq_put (al) 8 rfl rfl rfl (.inr ⟨rfl, rfl⟩) (by omega) (by simp [leB_length]) hr8 (List.Perm.refl _) (by omega) rfl (fun v9 b9 c9 N9 p9 hv9 hN9 hb9 hr9 => ?_)
 refine sqKR [6, 9] rfl ?_
 refine sqM rfl rfl ?_
 refine sq_q (q_fieldj (j := 7) rfl Tryd.runUnderlying126 rfl Tryd.sizeOf23 rfl) rfl ?_
 refine sq_q (q_load1 rfl Tryd.isAgg23 (i := 2) rfl rfl) rfl ?_
 refine sq_put (0) 8 rfl rfl rfl (.inr ⟨rfl, rfl⟩) (by omega) (by simp [leB_length]) hr9 (List.Perm.refl _) (by omega) rfl (fun v10 b10 c10 N10 p10 hv10 hN10 hb10 hr10 => ?_)
 refine sqKR [9] rfl ?_
 refine sqM rfl rfl ?_
 refine sq_q (q_nil rfl) rfl ?_
 refine sq_q (q_fieldj (j := 2) rfl Tryd.runUnderlying168 rfl Tryd.sizeOf22 rfl) rfl ?_
 refine sq_q (q_load1 rfl Tryd.isAgg22 (i := 0) rfl rfl) rfl ?_
 refine sqA rfl rfl ?_
 refine sqK [8] rfl ?_
 refine sc_ret ?_
 exact se_end (res1 Tryd.results30 rfl) (fun w' hw => ⟨_, _, rfl, hr10, hw.eff, fun p hp => hw.has p (by rw [List.mem_singleton.1 hp]; simp)⟩)

end Go.Proofs.YtgkjnkhoopcjgaaDoor
/- The reference's header of one small file. No condition. -/
namespace Go.Proofs.YtgkjnkhoopcjgaaDoor
open Go.Sx
set_option maxRecDepth 100000
set_option maxHeartbeats 1000000

theorem zero7 : Builtin.zeroCells (Value.int .u8 0).cells 7 = (List.replicate 7 (Value.int .u8 0)).toArray := by kernel_rfl
/-- append(literal, make([]byte, 7)...). -/
theorem m_app7 {w0 : World} {E : Nat → Prop} {fm : FM} {N : Nat} {mm : MM} {s y : Operand} {d : Option Nat} {ty : TypeId} {pos : String} {after : Array Edge} {gd : Option (Nat × Bool)} {b n j : Nat} {l : List Value} {e2 : TypeId} {fr : Nat × Nat}
  (hs : fm.ev s = some (.slice (some ⟨b, 0, none⟩) n n)) (hy : fm.ev y = some (.int .i64 7)) (hm : mm[j]? = some (b, .cells l.toArray e2 fr)) (hl : l.length = n) (hn : n ≤ 100) :
  Main Tryd.prog w0 E fm N mm ⟨d, .call { callee := .builtin .append, args := #[s, y], argTypes := #[22, 3] }, ty, pos, after, gd⟩ (fun q : Ry => q.v) (fun q => q.N) (fun q => q.R ++ mm) (fun q => N ≤ q.N ∧ RowOk w0.heap.size 5 1 (l ++ List.replicate 7 (Value.int .u8 0)) (n + 7) q.v q.R ∧ True) := by
 intro ρ hρ w hw
 have hold : (Builtin.firstCells Tryd.t5.size n (.slice (some ⟨b, 0, none⟩) n n)).run Tryd.prog w.drew = .ok l.toArray w.drew := by
  refine run_firstCells_some w.drew Tryd.t5.size n ⟨b, 0, none⟩ n n l (by rw [t5_size, hl, Nat.mul_one]) fun j u hj => ?_
  have := has_cells (o := 0) (n := l.length) (hw.get hm) j u (by simpa using hj)
  simpa using this
 have hr := Go.Lib.run_append_grow_zeros (P := Tryd.prog) w 22 3 ty 5 Tryd.t5 (.int .u8 0) .i64 .i64 Tryd.underlying22 Tryd.underlying3 (by kernel_rfl) (by kernel_rfl) (some ⟨b, 0, none⟩) n n l hold 7 (by omega) (by rw [t5_size]; omega) (by omega) (by omega) (by rw [t5_bytes]; omega)
  (growslice_fits (by omega) (by rw [t5_bytes]; omega))
 rw [hw.size] at hr
 have : (execOp ρ ⟨d, .call { callee := .builtin .append, args := #[s, y], argTypes := #[22, 3] }, ty, pos, after, gd⟩).run Tryd.prog w = .ok (.value (.slice (some ⟨N, 0, none⟩) (n + 7) (grownCap w (n + 7) n 5))) (w.drew.alloc (.cells (l.toArray ++ Builtin.zeroCells (Value.int .u8 0).cells 7 ++ Builtin.zeroCells (Value.int .u8 0).cells (grownCap w (n + 7) n 5 - (n + 7))) 5)) := by
  simp only [execOp, resolve, invoke, builtin, Sem.run_bind, Sem.run_pure, Result.andThen_ok, List.map_toArray, List.map_cons, List.map_nil, hρ _ _ hs, hρ _ _ hy]
  simp only [show (7 : Int) = ((7 : Nat) : Int) from rfl, hr, Result.andThen_ok]
 rw [this]
 have hcs : l.toArray ++ Builtin.zeroCells (Value.int .u8 0).cells 7 ++ Builtin.zeroCells (Value.int .u8 0).cells (grownCap w (n + 7) n 5 - (n + 7)) = ((l ++ List.replicate 7 (Value.int .u8 0)) ++ (Builtin.zeroCells (Value.int .u8 0).cells (grownCap w (n + 7) n 5 - (n + 7))).toList).toArray := by
  rw [zero7]; apply Array.ext'; simp
 rw [hcs]
 have hw' : Mem w0 E N mm w.drew := hw.same ⟨rfl, rfl, rfl, rfl⟩
 refine ⟨⟨_, [(N, .cells ((l ++ List.replicate 7 (Value.int .u8 0)) ++ (Builtin.zeroCells (Value.int .u8 0).cells (grownCap w (n + 7) n 5 - (n + 7))).toList).toArray 5 (0, 0))], N + 1⟩, ⟨Nat.le_succ N, ⟨by rw [List.length_append, List.length_replicate, hl, Nat.mul_one], .inr ⟨N, _, (Builtin.zeroCells (Value.int .u8 0).cells (grownCap w (n + 7) n 5 - (n + 7))).toList, rfl, rfl, grownCap_ge w _ n 5, grownCap_le_maxLen w _ n 5 (by simp only [maxLen]; omega), by rw [Array.length_toList, size_zeroCells]; rfl, hw.ge⟩⟩, trivial⟩, rfl, ?_⟩
 exact hw'.alloc _
def hd0 : List UInt8 := [127, 69, 76, 70, 2, 1, 1, 0, 0, 0, 0, 0, 0, 0, 0, 0]
def hdrRB : List UInt8 := (((((((((((((hd0 ++ leB 1 2) ++ leB 0 2) ++ leB 1 4) ++ leB 0 8) ++ leB 64 8) ++ leB 76 8) ++ leB 0 4) ++ leB 64 2) ++ leB 56 2) ++ leB 0 2) ++ leB 64 2) ++ leB 2 2) ++ leB 1 2)

theorem header31 {w : World} :
  Calls Tryd.prog 31 #[.agg [.bool true, .bool false, .int .u8 0, .int .u8 0, .int .i64 1, .int .i64 0, .int .u64 0, .slice none 0 0, .slice none 0 0].toArray, .int .i64 0, .int .i64 64, .int .i64 2, .int .i64 76] w (FreshR 5 1 (hdrRB.map u8v) hdrRB.length w) := by
 refine begins E0 Tryd.func31 rfl Tryd.ntmps31 rfl [(0, _), (1, _), (2, _), (3, _), (4, _)] ⟨rfl, rfl, rfl, rfl, rfl, trivial⟩ [] trivial List.nodup_nil ?_
 refine scR ?_
 refine sq_m (m_box (l := [.bool true, .bool false, .int .u8 0, .int .u8 0, .int .i64 1, .int .i64 0, .int .u64 0, .slice none 0 0, .slice none 0 0]) rfl rfl) rfl (fun _ _ => ?_)
 refine sqA rfl rfl ?_
 refine sqKR [1, 2, 3, 4, 5] rfl ?_
 refine sq_q (q_fieldj (j := 0) rfl Tryd.runUnderlying104 rfl Tryd.sizeOf4 rfl) rfl ?_
 refine sq_q (q_load1 rfl Tryd.isAgg4 (i := 0) rfl rfl) rfl ?_
 refine sq_q (q_call (args1 rfl) Tryd.call9 (fun w hw => sizes9_true)) rfl ?_
 refine sqM rfl rfl ?_
 iterate 3 refine sq_q (q_extract rfl rfl) rfl ?_
 iterate 3 refine sqA rfl rfl ?_
 refine sqKR [1, 2, 3, 4, 5, 11, 12, 13] rfl ?_
 refine sq_q (q_fieldj (j := 0) rfl Tryd.runUnderlying104 rfl Tryd.sizeOf4 rfl) rfl ?_
 refine sq_q (q_load1 rfl Tryd.isAgg4 (i := 0) rfl rfl) rfl ?_
 refine sq_q (q_fieldj (j := 1) rfl Tryd.runUnderlying104 rfl Tryd.sizeOf4 rfl) rfl ?_
 refine sq_q (q_load1 rfl Tryd.isAgg4 (i := 0) rfl rfl) rfl ?_
 refine sq_q (q_build (vs := [(0, _), (1, _)]) (cs := #[.bool true, .bool false, .slice none 0 0]) ⟨rfl, rfl, rfl, rfl, trivial⟩ (fun _ => by kernel_rfl)) rfl ?_
 refine sq_m (m_box rfl rfl) rfl (fun _ _ => ?_)
 refine sqA rfl rfl ?_
 refine sqKR [1, 2, 3, 4, 5, 11, 12, 13, 14] rfl ?_
 iterate 2 refine sqA rfl rfl ?_
 refine sqZ ?_
 refine sc_seq ?_
 refine scR ?_
 refine sq_q (q_fieldj (j := 0) rfl Tryd.runUnderlying104 rfl Tryd.sizeOf4 rfl) rfl ?_
 refine sq_q (q_load1 rfl Tryd.isAgg4 (i := 1) rfl rfl) rfl ?_
 refine sqK [1, 2, 3, 4, 5, 11, 12, 13, 14, 15, 16, 31] rfl ?_
 refine sc_cond_t rfl ?_
 refine sc_region ?_
 refine sqA rfl rfl ?_
 refine sqK [1, 2, 3, 4, 5, 11, 12, 13, 14, 15, 16] rfl ?_
 refine sc_seq ?_
 refine scR ?_
 refine sq_q (q_fieldj (j := 1) rfl Tryd.runUnderlying104 rfl Tryd.sizeOf4 rfl) rfl ?_
 refine sq_q (q_load1 rfl Tryd.isAgg4 (i := 1) rfl rfl) rfl ?_
 refine sqK [1, 2, 3, 4, 5, 11, 12, 13, 14, 15, 16, 33] rfl ?_
 refine sc_cond_f rfl ?_
 refine scS ?_
 refine scK [1, 2, 3, 4, 5, 11, 12, 13, 14, 15, 16] rfl ?_
 refine scR ?_
 iterate 3 refine sqM rfl rfl ?_
 refine sq_q (q_fieldj (j := 2) rfl Tryd.runUnderlying104 rfl Tryd.sizeOf5 rfl) rfl ?_
 refine sq_q (q_load1 rfl Tryd.isAgg5 (i := 1) rfl rfl) rfl ?_
 refine sq_q (q_fieldj (j := 3) rfl Tryd.runUnderlying104 rfl Tryd.sizeOf5 rfl) rfl ?_
 refine sq_q (q_load1 rfl Tryd.isAgg5 (i := 1) rfl rfl) rfl ?_
 refine sq_m (m_lit (vs := [(0, _), (1, _), (2, _), (3, _), (4, _), (5, _), (6, _), (7, _), (8, _)]) ⟨rfl, rfl, rfl, rfl, rfl, rfl, rfl, rfl, rfl, rfl, rfl, rfl, rfl, rfl, rfl, rfl, rfl, rfl, trivial⟩ (e := 5) (l := [.int .u8 127, .int .u8 69, .int .u8 76, .int .u8 70, .int .u8 2, .int .u8 1, .int .u8 1, .int .u8 0, .int .u8 0]) (fun w => by kernel_rfl)) rfl (fun _ _ => ?_)
 refine sq_row (m_app7 (j := 0) rfl rfl rfl rfl (by omega)) (by omega) rfl (fun b0 c0 N0 p0 hN0 hb0 hr8 => ?_)
 refine sq_q (q_nil rfl) rfl ?_
 refine sq_q (q_fieldj (j := 2) rfl Tryd.runUnderlying168 rfl Tryd.sizeOf22 rfl) rfl ?_
 refine sq_m0 (m_store rfl rfl Tryd.sizeOf22 rfl (i := 2) rfl rfl rfl (by intro h; omega)) (fun _ _ => ?_)
 refine sqKR [1, 2, 3, 4, 5, 11, 12, 13, 14] rfl ?_
 refine sqM rfl rfl ?_
 refine sq_q (q_fieldj (j := 4) rfl Tryd.runUnderlying104 rfl Tryd.sizeOf3 rfl) rfl ?_
 refine sq_q (q_load1 rfl Tryd.isAgg3 (i := 3) rfl rfl) rfl ?_
 refine sq_q (q_conv rfl Tryd.runUnderlying3 Tryd.runUnderlying23 (w_u64 (by omega) (by omega))) rfl ?_
 refine sq_put (1) 2 rfl rfl rfl (.inl ⟨rfl, by omega, by omega⟩) (by omega) (by decide) (show BR w.heap.size hd0 _ _ from hr8) (pull [_] [_] [[_, _]]) (by omega) rfl (fun v1 b1 c1 N1 p1 hv1 hN1 hb1 hr1 => ?_)
 refine sqKR [1, 2, 3, 4, 5, 11, 12, 13, 14] rfl ?_
 refine sqM rfl rfl ?_
 refine sq_q (q_fieldj (j := 5) rfl Tryd.runUnderlying104 rfl Tryd.sizeOf3 rfl) rfl ?_
 refine sq_q (q_load1 rfl Tryd.isAgg3 (i := 3) rfl rfl) rfl ?_
 refine sq_q (q_conv rfl Tryd.runUnderlying3 Tryd.runUnderlying23 (w_u64 (by omega) (by omega))) rfl ?_
 refine sq_put (0) 2 rfl rfl rfl (.inl ⟨rfl, by omega, by omega⟩) (by omega) (by simp [leB_length, hd0]) hr1 (List.Perm.refl _) (by omega) rfl (fun v2 b2 c2 N2 p2 hv2 hN2 hb2 hr2 => ?_)
 refine sqKR [1, 2, 3, 4, 5, 11, 12, 13, 14] rfl ?_
 refine sqM rfl rfl ?_
 refine sq_put (1) 4 rfl rfl rfl (.inl ⟨rfl, by omega, by omega⟩) (by omega) (by simp [leB_length, hd0]) hr2 (List.Perm.refl _) (by omega) rfl (fun v3 b3 c3 N3 p3 hv3 hN3 hb3 hr3 => ?_)
 refine sqKR [1, 2, 3, 4, 5, 11, 12, 13, 14] rfl ?_
 refine sqM rfl rfl ?_
 refine sq_q (q_fieldj (j := 6) rfl Tryd.runUnderlying104 rfl Tryd.sizeOf23 rfl) rfl ?_
 refine sq_q (q_load1 rfl Tryd.isAgg23 (i := 3) rfl rfl) rfl ?_
 refine sq_put (0) 8 rfl rfl rfl (.inr ⟨rfl, rfl⟩) (by omega) (by simp [leB_length, hd0]) hr3 (List.Perm.refl _) (by omega) rfl (fun v4 b4 c4 N4 p4 hv4 hN4 hb4 hr4 => ?_)
 refine sqKR [1, 2, 3, 4, 11, 12, 13, 14] rfl ?_
 iterate 2 refine sqM rfl rfl ?_
 refine sq_q (q_conv rfl Tryd.runUnderlying3 Tryd.runUnderlying23 (w_u64 (by omega) (by omega))) rfl ?_
 refine sq_put (64) 8 rfl rfl rfl (.inr ⟨rfl, rfl⟩) (by omega) (by simp [leB_length, hd0]) hr4 (List.Perm.refl _) (by omega) rfl (fun v5 b5 c5 N5 p5 hv5 hN5 hb5 hr5 => ?_)
 refine sqKR [1, 3, 4, 11, 12, 13, 14] rfl ?_
 iterate 2 refine sqM rfl rfl ?_
 refine sq_q (q_conv rfl Tryd.runUnderlying3 Tryd.runUnderlying23 (w_u64 (by omega) (by omega))) rfl ?_
 refine sq_put (76) 8 rfl rfl rfl (.inr ⟨rfl, rfl⟩) (by omega) (by simp [leB_length, hd0]) hr5 (List.Perm.refl _) (by omega) rfl (fun v6 b6 c6 N6 p6 hv6 hN6 hb6 hr6 => ?_)
 refine sqKR [1, 3, 11, 12, 13, 14] rfl ?_
 refine sqM rfl rfl ?_
 refine sq_put (0) 4 rfl rfl rfl (.inl ⟨rfl, by omega, by omega⟩) (by omega) (by simp [leB_length, hd0]) hr6 (List.Perm.refl _) (by omega) rfl (fun v7 b7 c7 N7 p7 hv7 hN7 hb7 hr7 => ?_)
 refine sqKR [1, 3, 11, 12, 13, 14] rfl ?_
 iterate 2 refine sqM rfl rfl ?_
 refine sq_q (q_conv rfl Tryd.runUnderlying3 Tryd.runUnderlying23 (w_u64 (by omega) (by omega))) rfl ?_
 refine sq_put (64) 2 rfl rfl rfl (.inl ⟨rfl, by omega, by omega⟩) (by omega) (by simp [leB_length, hd0]) hr7 (List.Perm.refl _) (by omega) rfl (fun v8 b8 c8 N8 p8 hv8 hN8 hb8 hr8 => ?_)
 refine sqKR [1, 3, 12, 13, 14] rfl ?_
 iterate 2 refine sqM rfl rfl ?_
 refine sq_q (q_conv rfl Tryd.runUnderlying3 Tryd.runUnderlying23 (w_u64 (by omega) (by omega))) rfl ?_
 refine sq_put (56) 2 rfl rfl rfl (.inl ⟨rfl, by omega, by omega⟩) (by omega) (by simp [leB_length, hd0]) hr8 (List.Perm.refl _) (by omega) rfl (fun v9 b9 c9 N9 p9 hv9 hN9 hb9 hr9 => ?_)
 refine sqKR [1, 3, 13, 14] rfl ?_
 iterate 2 refine sqM rfl rfl ?_
 refine sq_q (q_conv rfl Tryd.runUnderlying3 Tryd.runUnderlying23 (w_u64 (by omega) (by omega))) rfl ?_
 refine sq_put (0) 2 rfl rfl rfl (.inl ⟨rfl, by omega, by omega⟩) (by omega) (by simp [leB_length, hd0]) hr9 (List.Perm.refl _) (by omega) rfl (fun v10 b10 c10 N10 p10 hv10 hN10 hb10 hr10 => ?_)
 refine sqKR [3, 13, 14] rfl ?_
 iterate 2 refine sqM rfl rfl ?_
 refine sq_q (q_conv rfl Tryd.runUnderlying3 Tryd.runUnderlying23 (w_u64 (by omega) (by omega))) rfl ?_
 refine sq_put (64) 2 rfl rfl rfl (.inl ⟨rfl, by omega, by omega⟩) (by omega) (by simp [leB_length, hd0]) hr10 (List.Perm.refl _) (by omega) rfl (fun v11 b11 c11 N11 p11 hv11 hN11 hb11 hr11 => ?_)
 refine sqKR [3, 14] rfl ?_
 iterate 2 refine sqM rfl rfl ?_
 refine sq_q (q_conv rfl Tryd.runUnderlying3 Tryd.runUnderlying23 (w_u64 (by omega) (by omega))) rfl ?_
 refine sq_put (2) 2 rfl rfl rfl (.inl ⟨rfl, by omega, by omega⟩) (by omega) (by simp [leB_length, hd0]) hr11 (List.Perm.refl _) (by omega) rfl (fun v12 b12 c12 N12 p12 hv12 hN12 hb12 hr12 => ?_)
 refine sqKR [3, 14] rfl ?_
 iterate 2 refine sqM rfl rfl ?_
 refine sq_q (q_sub rfl rfl (w_i64 (by omega) (by omega))) rfl ?_
 refine sq_q (q_conv rfl Tryd.runUnderlying3 Tryd.runUnderlying23 (w_u64 (by omega) (by omega))) rfl ?_
 refine sq_put (1) 2 rfl rfl rfl (.inl ⟨rfl, by omega, by omega⟩) (by omega) (by simp [leB_length, hd0]) hr12 (List.Perm.refl _) (by omega) rfl (fun v13 b13 c13 N13 p13 hv13 hN13 hb13 hr13 => ?_)
 refine sqKR [14] rfl ?_
 refine sqM rfl rfl ?_
 refine sq_q (q_nil rfl) rfl ?_
 refine sq_q (q_fieldj (j := 2) rfl Tryd.runUnderlying168 rfl Tryd.sizeOf22 rfl) rfl ?_
 refine sq_q (q_load1 rfl Tryd.isAgg22 (i := 0) rfl rfl) rfl ?_
 refine sqA rfl rfl ?_
 refine sqK [10] rfl ?_
 refine sc_ret ?_
 exact se_end (res1 Tryd.results31 rfl) (fun w' hw => ⟨_, _, rfl, hr13, hw.eff, fun p hp => hw.has p (by rw [List.mem_singleton.1 hp]; simp)⟩)

end Go.Proofs.YtgkjnkhoopcjgaaDoor
